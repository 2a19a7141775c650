import JvmDerived
import JvmDerived.Pilot.@@N@@Statement
import JvmDerived.Pilot.@@N@@Code
set_option linter.unusedVariables false
set_option linter.unusedSimpArgs false
namespace Jvm.RoadKit
open Sem ClassFile Op Lib Jvm.Stand Jvm.Free Jvm.LawKit
section New
variable {p : Program} {l : Launch} {e : Env} {R : Room} {s : State} {m : MethodId} {args : Array Value} {below : List Frame} {meth : Method} {c : Code} {T : State} {locs : List Loc} {cells slots : Nat}
theorem retI (X : Stand p l e R s m args below meth c T locs cells slots) (hx : p.tables.exec = Jvm.exec) {pc : Nat} {Ls : Array Slot} {z : Int32} {rest : List Value} (hret : meth.sig.returnType = some .int) (hd : decode c.code pc = .ok (.ireturn, 1)) {fs : List Frame}
    (hl : ∀ (f : JFrame) (acts : List Action), f.method = m → f.locked = none → f.entered = [] → (doReturn e (T.setTop f) acts (some (.int z))).1 = T.setFrames fs) : Steps p.tables e below (T.setTop (mkF m pc Ls (.int z :: rest))) (T.setFrames fs) := by
  have hm' : T.vm.method? m = some meth := X.method'
  have hn : narrow .int (.int z) = .int z := rfl
  show Steps p.tables e below (T.setTop { method := m, pc := pc, locals := Ls, stack := _ :: rest, locked := none }) _
  jvm_step X.here [X.here.top, hx, hd, hm', hret, hn]
  first | (intro acts; rw [hl _ acts rfl rfl rfl]) | rw [hl _ _ rfl rfl rfl]
  exact Steps.refl _
end New
/-- from this state a run goes on to an end that meets K -/
def Good (p : Program) (e : Env) (below : List Frame) (K : Outcome → State → Prop) (S : State) : Prop := ∃ s₂ o, Steps p.tables e below S s₂ ∧ s₂.status = .running ∧ Ended s₂ below o ∧ K o s₂
theorem Good.back {p : Program} {e : Env} {below : List Frame} {K : Outcome → State → Prop} {S S' : State} (h : ∀ t, Steps p.tables e below S' t → Steps p.tables e below S t) (g : Good p e below K S') : Good p e below K S := by
  obtain ⟨t, o, h1, h2⟩ := g
  exact ⟨t, o, h t h1, h2⟩
theorem Good.done {p : Program} {e : Env} {below : List Frame} {K : Outcome → State → Prop} {S t : State} {o : Outcome} (h1 : Steps p.tables e below S t) (h2 : t.status = .running) (h3 : Ended t below o) (h4 : K o t) : Good p e below K S := ⟨t, o, h1, h2, h3, h4⟩
end Jvm.RoadKit
namespace Jvm.Pilot.@@N@@
open Jvm Jvm.ClassFile Sem Op Lib Jvm.Free Jvm.Stand Jvm.LawKit Jvm.RoadKit Bundle Jvm.Pilot.@@N@@.Jvm.D
theorem own_eqV {args : Array Value} {first s : State} {o : Option Outcome} {idx : List Nat} {a b : Term} {y : Value} (h : (Jvm.Cond.eq a b).value args first o s idx = some true) (hb : b.eval args first o idx s = some y) : a.eval args first o idx s = some y := by
  cases ha : a.eval args first o idx s with
  | none => simp [Jvm.Cond.value, ha] at h
  | some x => cases x <;> cases y <;> simp_all [Jvm.Cond.value]
theorem own_len {args : Array Value} {s : State} {t : Term} {a : Addr} {cl : Cell} {ty : FieldType} {k : Int32} (A : Arr s s.heap a cl ty) (ev : t.eval args s none [] s = some (.ref a)) (h : (Term.length t).eval args s none [] s = some (.int k)) : cl.slots.size < 2 ^ 31 ∧ cl.slots.size.toInt32 = k := by
  have ha : s.arrayAt? a = some cl := IntBox.arrayAt_of A.1 A.2.1 A.2.2
  simp [Term.eval, ev, ha] at h
  exact h

theorem own_neI {args : Array Value} {first s : State} {o : Option Outcome} {idx : List Nat} {a : Term} {x k : Int32} (h : (Jvm.Cond.eq a (Term.int k)).value args first o s idx = some (!true)) (ha : a.eval args first o idx s = some (.int x)) : ¬ (x = k) := by
  intro q
  have hb : (Term.int k).eval args first o idx s = some (.int k) := rfl
  simp [Jvm.Cond.value, ha, hb, q] at h
theorem own_staKeep {Z : State} {h h' : Heap} {C n d : String} {v : Value} {ws : List Addr} (F : Sta Z h C n d v) (K : Keep h h' ws) (q : ∀ x ∈ ws, ∀ c : Cell, h[x]? = some c → c.vm.isStatics = false) : Sta Z h' C n d v := by
  obtain ⟨cf, i, k, f, st, cell, h1, h2, h3, h4, h5, h6, h7⟩ := F
  refine ⟨cf, i, k, f, st, cell, h1, h2, h3, h4, K.2.1 st cell h5 (fun hm => ?_), h6, h7⟩
  have := q st hm cell h5
  rw [this] at h6
  cases h6
theorem own_plainE {Z : State} {h : Heap} {x : Addr} {C : String} (E : Exa Z h x C) : ∀ c : Cell, h[x]? = some c → c.vm.isStatics = false := by
  obtain ⟨cell, k, h1, h2, h3, h4, h5⟩ := E
  intro c hc
  rw [h1] at hc
  cases hc
  exact h4
theorem own_plainV {Z : State} {h : Heap} {a : Addr} {k : ClassId} {ty : FieldType} {z : Int32} {vs : List Value} {d : Value} (F : Arv Z h a k ty z vs d) : ∀ c : Cell, h[a]? = some c → c.vm.isStatics = false := by
  obtain ⟨cell, A, -⟩ := F
  intro c hc
  rw [A.1] at hc
  cases hc
  exact A.plain

theorem own_wS {Z : State} {a0 : Array Value} (hw : ∀ d ∈ tables_1, d.before a0 Z = true) : ∀ a ∈ Bundle.stringAtoms, a.before a0 Z = true := by
  intro a ha
  simp only [Bundle.stringAtoms, List.mem_cons, List.not_mem_nil, or_false] at ha
  rcases ha with rfl | rfl | rfl | rfl | rfl | rfl | rfl
  · exact (hw _ (List.mem_of_getElem? (i := 5) rfl))
  · exact (hw _ (List.mem_of_getElem? (i := 6) rfl))
  · exact (hw _ (List.mem_of_getElem? (i := 7) rfl))
  · exact (hw _ (List.mem_of_getElem? (i := 8) rfl))
  · exact (hw _ (List.mem_of_getElem? (i := 9) rfl))
  · exact (hw _ (List.mem_of_getElem? (i := 10) rfl))
  · exact (hw _ (List.mem_of_getElem? (i := 11) rfl))
theorem own_charN (x : Int32) : ¬ ((255 : Int32) < nar .char ((x &&& (255 : Int32)).toUInt32.toUInt16.toUInt32.toInt32)) := by
  rw [i2c_mask]
  show ¬ ((255 : Int32) < (x &&& 255).toUInt32.toUInt16.toUInt32.toInt32)
  rw [i2c_mask, Int32.lt_iff_toInt_lt]
  have h := (c_and x 255 (by decide)).2
  exact Int.not_lt.mpr h
theorem own_pn0 : plainName "java/lang/StringUTF16" = true := by first | (simp [plainName, overriddenIn]; done) | decide +kernel
theorem own_d5_0 : decode jdk_52_method_21_code 0 = .ok (.iconst 0, 1) := by decide +kernel
theorem own_d5_1 : decode jdk_52_method_21_code 1 = .ok (.istore 5, 2) := by decide +kernel
theorem own_d5_3 : decode jdk_52_method_21_code 3 = .ok (.iload 5, 2) := by decide +kernel
theorem own_d5_5 : decode jdk_52_method_21_code 5 = .ok (.iload 4, 2) := by decide +kernel
theorem own_d5_7 : decode jdk_52_method_21_code 7 = .ok (.if_icmp .ge 37, 3) := by decide +kernel
theorem own_d5_10 : decode jdk_52_method_21_code 10 = .ok (.aload_n 0, 1) := by decide +kernel
theorem own_d5_11 : decode jdk_52_method_21_code 11 = .ok (.iload_n 1, 1) := by decide +kernel
theorem own_d5_12 : decode jdk_52_method_21_code 12 = .ok (.caload, 1) := by decide +kernel
theorem own_d5_13 : decode jdk_52_method_21_code 13 = .ok (.istore 6, 2) := by decide +kernel
theorem own_d5_15 : decode jdk_52_method_21_code 15 = .ok (.iload 6, 2) := by decide +kernel
theorem own_d5_17 : decode jdk_52_method_21_code 17 = .ok (.sipush 255, 3) := by decide +kernel
theorem own_d5_20 : decode jdk_52_method_21_code 20 = .ok (.if_icmp .le 6, 3) := by decide +kernel
theorem own_d5_26 : decode jdk_52_method_21_code 26 = .ok (.aload_n 2, 1) := by decide +kernel
theorem own_d5_27 : decode jdk_52_method_21_code 27 = .ok (.iload_n 3, 1) := by decide +kernel
theorem own_d5_28 : decode jdk_52_method_21_code 28 = .ok (.iload 6, 2) := by decide +kernel
theorem own_d5_30 : decode jdk_52_method_21_code 30 = .ok (.i2b, 1) := by decide +kernel
theorem own_d5_31 : decode jdk_52_method_21_code 31 = .ok (.bastore, 1) := by decide +kernel
theorem own_d5_32 : decode jdk_52_method_21_code 32 = .ok (.iinc 1 1, 3) := by decide +kernel
theorem own_d5_35 : decode jdk_52_method_21_code 35 = .ok (.iinc 3 1, 3) := by decide +kernel
theorem own_d5_38 : decode jdk_52_method_21_code 38 = .ok (.iinc 5 1, 3) := by decide +kernel
theorem own_d5_41 : decode jdk_52_method_21_code 41 = .ok (.goto (-38), 3) := by decide +kernel
theorem own_d5_44 : decode jdk_52_method_21_code 44 = .ok (.iload 4, 2) := by decide +kernel
theorem own_d5_46 : decode jdk_52_method_21_code 46 = .ok (.ireturn, 1) := by decide +kernel
theorem own_ef_5n1 (m : MethodId) (x0 : Addr) (x1 : Int32) (x2 : Addr) (x3 : Int32) (x4 : Int32) : entryFrame m #[(.ref x0), (.int x1), (.ref x2), (.int x3), (.int x4)] 7 = mkF m 0 #[.val (.ref x0), .val (.int x1), .val (.ref x2), .val (.int x3), .val (.int x4), .unset, .unset] [] := by first | (simp [entryFrame, mkF, argsToLocals, Value.category]; done) | rfl
def Q5n1 (Z : State) (r0 : Addr) (r2 : Addr) (kc : ClassId) (c0 : Int32) (kb : ClassId) (h0 : Heap) (n0 : Nat) (v : Option Value) (h : Heap) (L : List Loc) : Prop := v = some (.int (1 : Int32)) ∧ Fr n0 L ∧ Keep h0 h [r2] ∧ Arv Z h r2 kb .byte (1 : Int32) [(.int (c0.toInt8.toInt32).toInt8.toInt32)] (.int (0 : Int32))
set_option maxRecDepth 65536 in
set_option maxHeartbeats 40000000 in
theorem rm5n1 (l : Launch) (Z : State) (a0 : Array Value) (hw : ∀ d ∈ tables_1, d.before a0 Z = true) (ws : List Jvm.Cond) (r0 : Addr) (r2 : Addr) (kc : ClassId) (c0 : Int32) (kb : ClassId) (h0 : Heap) (n0 : Nat) (Z0 : n0 ≤ h0.size) (VC : Arv Z h0 r0 kc .char (1 : Int32) [(.int c0)] (.int (0 : Int32))) (VB : Arv Z h0 r2 kb .byte (1 : Int32) [(.int (0 : Int32))] (.int (0 : Int32))) (g2 : n0 ≤ r2) (hne : r0 ≠ r2) (hle0 : ¬ ((255 : Int32) < c0)) :
    MetFree l (⟨"java/lang/StringUTF16", "compress", "([CI[BII)I"⟩ : MethodName) (head1 (Jvm.Cond.code (⟨"java/lang/StringUTF16", "compress", "([CI[BII)I"⟩ : MethodName) jdk_52_method_21_code 7 (some .int) :: ws) ({ frames := 0, cells := 0, slots := 0, locals := 0 } : Room)) (fun a U => a = #[(.ref r0), (.int (0 : Int32)), (.ref r2), (.int (0 : Int32)), (.int (1 : Int32))] ∧ Z.Warmed39 U.vm ∧ U.heap = h0) (fun _ _ _ _ _ => True) (fun _ U o U' => ∃ v L, o = .returned v ∧ Q5n1 Z r0 r2 kc c0 kb h0 n0 v U'.heap L ∧ FrameEnd U o U' L ({ frames := 0, cells := 0, slots := 0, locals := 0 } : Room).cells ({ frames := 0, cells := 0, slots := 0, locals := 0 } : Room).slots) := by
  refine MetFree.of_bodySF (plainFor_of_name own_pn0) hisR ?_
  intro p e s m args below meth c s₁ Bd hml0 hP hK
  obtain ⟨rfl, hZ, hh⟩ := hP
  have hx := Bd.exec
  have hby := Bd.bytes
  have hml : c.maxLocals = 7 := hml0
  have hown : s.vm.findClass "java/lang/StringUTF16" = some m.cls := findClass_of_methodNamed Bd.named
  have hnm := (name_of_methodNamed Bd.named Bd.method).1
  have X0 : Stand p l e ({ frames := 0, cells := 0, slots := 0, locals := 0 } : Room) s m #[(.ref r0), (.int (0 : Int32)), (.ref r2), (.int (0 : Int32)), (.int (1 : Int32))] below meth c s₁ [] 0 0 := Stand.of_body Bd
  have e0 : s₁.heap = h0 := by rw [← hh, Bd.state]; rfl
  have N0 := Fr.nil n0
  have KR : Keep h0 h0 [r2] := Keep.refl h0 _
  show Good p e below (fun o U' => ∃ v L, o = .returned v ∧ Q5n1 Z r0 r2 kc c0 kb h0 n0 v U'.heap L ∧ FrameEnd s o U' L ({ frames := 0, cells := 0, slots := 0, locals := 0 } : Room).cells ({ frames := 0, cells := 0, slots := 0, locals := 0 } : Room).slots) _
  refine Good.back (S' := s₁.setTop (mkF m 0 #[.val (.ref r0), .val (.int (0 : Int32)), .val (.ref r2), .val (.int (0 : Int32)), .val (.int (1 : Int32)), .unset, .unset] [])) (fun t k => castTop (own_ef_5n1 m r0 (0 : Int32) r2 (0 : Int32) (1 : Int32)) k) ?_
  show Good p e below _ (s₁.setTop (mkF m 0 #[.val (.ref r0), .val (.int (0 : Int32)), .val (.ref r2), .val (.int (0 : Int32)), .val (.int (1 : Int32)), .unset, .unset] []))
  refine Good.back (fun _ k => XS.iconst X0.here hx rfl (hb hby own_d5_0) k) ?_
  show Good p e below _ (s₁.setTop (mkF m 1 #[.val (.ref r0), .val (.int (0 : Int32)), .val (.ref r2), .val (.int (0 : Int32)), .val (.int (1 : Int32)), .unset, .unset] [(.int (0 : Int32))]))
  refine Good.back (fun _ k => XS.istore X0.here hx rfl (hb hby own_d5_1) rfl (l' := #[.val (.ref r0), .val (.int (0 : Int32)), .val (.ref r2), .val (.int (0 : Int32)), .val (.int (1 : Int32)), .val (.int (0 : Int32)), .unset]) rfl k) ?_
  show Good p e below _ (s₁.setTop (mkF m 3 #[.val (.ref r0), .val (.int (0 : Int32)), .val (.ref r2), .val (.int (0 : Int32)), .val (.int (1 : Int32)), .val (.int (0 : Int32)), .unset] []))
  refine Good.back (fun _ k => XS.iload X0.here hx rfl (hb hby own_d5_3) rfl k) ?_
  show Good p e below _ (s₁.setTop (mkF m 5 #[.val (.ref r0), .val (.int (0 : Int32)), .val (.ref r2), .val (.int (0 : Int32)), .val (.int (1 : Int32)), .val (.int (0 : Int32)), .unset] [(.int (0 : Int32))]))
  refine Good.back (fun _ k => XS.iload X0.here hx rfl (hb hby own_d5_5) rfl k) ?_
  show Good p e below _ (s₁.setTop (mkF m 7 #[.val (.ref r0), .val (.int (0 : Int32)), .val (.ref r2), .val (.int (0 : Int32)), .val (.int (1 : Int32)), .val (.int (0 : Int32)), .unset] [(.int (1 : Int32)), (.int (0 : Int32))]))
  refine Good.back (fun _ k => XS.icmpNo X0.here hx rfl (hb hby own_d5_7) rfl (tlt (by decide : ((0 : Int32) < (1 : Int32)))).2.1 k) ?_
  show Good p e below _ (s₁.setTop (mkF m 10 #[.val (.ref r0), .val (.int (0 : Int32)), .val (.ref r2), .val (.int (0 : Int32)), .val (.int (1 : Int32)), .val (.int (0 : Int32)), .unset] []))
  refine Good.back (fun _ k => XS.aloadN X0.here hx rfl (hb hby own_d5_10) rfl rfl k) ?_
  show Good p e below _ (s₁.setTop (mkF m 11 #[.val (.ref r0), .val (.int (0 : Int32)), .val (.ref r2), .val (.int (0 : Int32)), .val (.int (1 : Int32)), .val (.int (0 : Int32)), .unset] [(.ref r0)]))
  refine Good.back (fun _ k => XS.iloadN X0.here hx rfl (hb hby own_d5_11) rfl k) ?_
  show Good p e below _ (s₁.setTop (mkF m 12 #[.val (.ref r0), .val (.int (0 : Int32)), .val (.ref r2), .val (.int (0 : Int32)), .val (.int (1 : Int32)), .val (.int (0 : Int32)), .unset] [(.int (0 : Int32)), (.ref r0)]))
  have fc1 := VC
  obtain ⟨cl1, Ar1, qk1, S1, N1', H1, G1⟩ := fc1
  have hin1 : ¬ ((0 : Int32) < 0 ∨ cl1.slots.size ≤ ((0 : Int32)).toNatClampNeg) := inb_of S1 ⟨by decide, by decide⟩
  have hat1 : cl1.slots[((0 : Int32)).toNatClampNeg]? = some (.int c0) := Has.at H1 hin1 rfl
  refine Good.back (X0.caload hx (j := (0 : Int32)) (v := (.int c0)) (by rw [e0]; exact Ar1.1) (State.isArrayOf_alike hZ.alike Ar1.2.1) Ar1.2.2 hin1 hat1 (g := (mkF m 12 #[.val (.ref r0), .val (.int (0 : Int32)), .val (.ref r2), .val (.int (0 : Int32)), .val (.int (1 : Int32)), .val (.int (0 : Int32)), .unset] [(.int (0 : Int32)), (.ref r0)])) rfl rfl (hb hby own_d5_12)) ?_
  show Good p e below _ (s₁.setTop (mkF m 13 #[.val (.ref r0), .val (.int (0 : Int32)), .val (.ref r2), .val (.int (0 : Int32)), .val (.int (1 : Int32)), .val (.int (0 : Int32)), .unset] [(.int c0)]))
  refine Good.back (fun _ k => XS.istore X0.here hx rfl (hb hby own_d5_13) rfl (l' := #[.val (.ref r0), .val (.int (0 : Int32)), .val (.ref r2), .val (.int (0 : Int32)), .val (.int (1 : Int32)), .val (.int (0 : Int32)), .val (.int c0)]) rfl k) ?_
  show Good p e below _ (s₁.setTop (mkF m 15 #[.val (.ref r0), .val (.int (0 : Int32)), .val (.ref r2), .val (.int (0 : Int32)), .val (.int (1 : Int32)), .val (.int (0 : Int32)), .val (.int c0)] []))
  refine Good.back (fun _ k => XS.iload X0.here hx rfl (hb hby own_d5_15) rfl k) ?_
  show Good p e below _ (s₁.setTop (mkF m 17 #[.val (.ref r0), .val (.int (0 : Int32)), .val (.ref r2), .val (.int (0 : Int32)), .val (.int (1 : Int32)), .val (.int (0 : Int32)), .val (.int c0)] [(.int c0)]))
  refine Good.back (fun _ k => XS.sipush X0.here hx rfl (hb hby own_d5_17) k) ?_
  show Good p e below _ (s₁.setTop (mkF m 20 #[.val (.ref r0), .val (.int (0 : Int32)), .val (.ref r2), .val (.int (0 : Int32)), .val (.int (1 : Int32)), .val (.int (0 : Int32)), .val (.int c0)] [(.int (255 : Int32)), (.int c0)]))
  refine Good.back (fun _ k => XS.icmpYes X0.here hx rfl (pc0 := 20) (pc' := 26) rfl (hb hby own_d5_20) rfl (flt hle0).2.2.2 (by decide) (by decide) k) ?_
  show Good p e below _ (s₁.setTop (mkF m 26 #[.val (.ref r0), .val (.int (0 : Int32)), .val (.ref r2), .val (.int (0 : Int32)), .val (.int (1 : Int32)), .val (.int (0 : Int32)), .val (.int c0)] []))
  refine Good.back (fun _ k => XS.aloadN X0.here hx rfl (hb hby own_d5_26) rfl rfl k) ?_
  show Good p e below _ (s₁.setTop (mkF m 27 #[.val (.ref r0), .val (.int (0 : Int32)), .val (.ref r2), .val (.int (0 : Int32)), .val (.int (1 : Int32)), .val (.int (0 : Int32)), .val (.int c0)] [(.ref r2)]))
  refine Good.back (fun _ k => XS.iloadN X0.here hx rfl (hb hby own_d5_27) rfl k) ?_
  show Good p e below _ (s₁.setTop (mkF m 28 #[.val (.ref r0), .val (.int (0 : Int32)), .val (.ref r2), .val (.int (0 : Int32)), .val (.int (1 : Int32)), .val (.int (0 : Int32)), .val (.int c0)] [(.int (0 : Int32)), (.ref r2)]))
  refine Good.back (fun _ k => XS.iload X0.here hx rfl (hb hby own_d5_28) rfl k) ?_
  show Good p e below _ (s₁.setTop (mkF m 30 #[.val (.ref r0), .val (.int (0 : Int32)), .val (.ref r2), .val (.int (0 : Int32)), .val (.int (1 : Int32)), .val (.int (0 : Int32)), .val (.int c0)] [(.int c0), (.int (0 : Int32)), (.ref r2)]))
  refine Good.back (fun _ k => XS.i2b X0.here hx rfl (hb hby own_d5_30) rfl k) ?_
  show Good p e below _ (s₁.setTop (mkF m 31 #[.val (.ref r0), .val (.int (0 : Int32)), .val (.ref r2), .val (.int (0 : Int32)), .val (.int (1 : Int32)), .val (.int (0 : Int32)), .val (.int c0)] [(.int (c0.toInt8.toInt32)), (.int (0 : Int32)), (.ref r2)]))
  have fc2 := VB
  obtain ⟨cl2, Ar2, qk2, S2, N2', H2, G2⟩ := fc2
  have hin2 : ¬ ((0 : Int32) < 0 ∨ cl2.slots.size ≤ ((0 : Int32)).toNatClampNeg) := inb_of S2 ⟨by decide, by decide⟩
  obtain ⟨T2, h2, X2, e2, W2, st2⟩ := stB X0 hx hZ e0 Ar2 (j := (0 : Int32)) hin2 (g := (mkF m 31 #[.val (.ref r0), .val (.int (0 : Int32)), .val (.ref r2), .val (.int (0 : Int32)), .val (.int (1 : Int32)), .val (.int (0 : Int32)), .val (.int c0)] [(.int (c0.toInt8.toInt32)), (.int (0 : Int32)), (.ref r2)])) rfl rfl (hb hby own_d5_31)
  refine Good.back st2 ?_
  have f_3 : Arv Z h2 r2 kb .byte (1 : Int32) [(.int (c0.toInt8.toInt32).toInt8.toInt32)] (.int (0 : Int32)) := Arv.set Ar2 qk2 S2 N2' H2 G2 (fits_nar_byte _) W2 0 rfl (Nat.le_of_ble_eq_true rfl)
  have N2 := Fr.snoc X2 N0 g2
  have Z4 : n0 ≤ h2.size := Nat.le_trans Z0 (Keep.of_wr W2).1
  have K5 : Keep h0 h2 [r2] := KR.wr W2 (Or.inl (List.mem_of_getElem? (i := 0) rfl))
  show Good p e below _ (T2.setTop (mkF m 32 #[.val (.ref r0), .val (.int (0 : Int32)), .val (.ref r2), .val (.int (0 : Int32)), .val (.int (1 : Int32)), .val (.int (0 : Int32)), .val (.int c0)] []))
  refine Good.back (fun _ k => XS.iinc X2.here hx rfl (hb hby own_d5_32) rfl (l' := #[.val (.ref r0), .val (.int ((0 : Int32) + (1 : Int32))), .val (.ref r2), .val (.int (0 : Int32)), .val (.int (1 : Int32)), .val (.int (0 : Int32)), .val (.int c0)]) rfl k) ?_
  show Good p e below _ (T2.setTop (mkF m 35 #[.val (.ref r0), .val (.int ((0 : Int32) + (1 : Int32))), .val (.ref r2), .val (.int (0 : Int32)), .val (.int (1 : Int32)), .val (.int (0 : Int32)), .val (.int c0)] []))
  rw [show (((0 : Int32) + (1 : Int32)) : Int32) = (1 : Int32) from by decide]
  show Good p e below _ (T2.setTop (mkF m 35 #[.val (.ref r0), .val (.int (1 : Int32)), .val (.ref r2), .val (.int (0 : Int32)), .val (.int (1 : Int32)), .val (.int (0 : Int32)), .val (.int c0)] []))
  refine Good.back (fun _ k => XS.iinc X2.here hx rfl (hb hby own_d5_35) rfl (l' := #[.val (.ref r0), .val (.int (1 : Int32)), .val (.ref r2), .val (.int ((0 : Int32) + (1 : Int32))), .val (.int (1 : Int32)), .val (.int (0 : Int32)), .val (.int c0)]) rfl k) ?_
  show Good p e below _ (T2.setTop (mkF m 38 #[.val (.ref r0), .val (.int (1 : Int32)), .val (.ref r2), .val (.int ((0 : Int32) + (1 : Int32))), .val (.int (1 : Int32)), .val (.int (0 : Int32)), .val (.int c0)] []))
  rw [show (((0 : Int32) + (1 : Int32)) : Int32) = (1 : Int32) from by decide]
  show Good p e below _ (T2.setTop (mkF m 38 #[.val (.ref r0), .val (.int (1 : Int32)), .val (.ref r2), .val (.int (1 : Int32)), .val (.int (1 : Int32)), .val (.int (0 : Int32)), .val (.int c0)] []))
  refine Good.back (fun _ k => XS.iinc X2.here hx rfl (hb hby own_d5_38) rfl (l' := #[.val (.ref r0), .val (.int (1 : Int32)), .val (.ref r2), .val (.int (1 : Int32)), .val (.int (1 : Int32)), .val (.int ((0 : Int32) + (1 : Int32))), .val (.int c0)]) rfl k) ?_
  show Good p e below _ (T2.setTop (mkF m 41 #[.val (.ref r0), .val (.int (1 : Int32)), .val (.ref r2), .val (.int (1 : Int32)), .val (.int (1 : Int32)), .val (.int ((0 : Int32) + (1 : Int32))), .val (.int c0)] []))
  rw [show (((0 : Int32) + (1 : Int32)) : Int32) = (1 : Int32) from by decide]
  show Good p e below _ (T2.setTop (mkF m 41 #[.val (.ref r0), .val (.int (1 : Int32)), .val (.ref r2), .val (.int (1 : Int32)), .val (.int (1 : Int32)), .val (.int (1 : Int32)), .val (.int c0)] []))
  refine Good.back (fun _ k => XS.goto X2.here hx rfl (pc0 := 41) (pc' := 3) rfl (hb hby own_d5_41) (by decide) (by decide) k) ?_
  show Good p e below _ (T2.setTop (mkF m 3 #[.val (.ref r0), .val (.int (1 : Int32)), .val (.ref r2), .val (.int (1 : Int32)), .val (.int (1 : Int32)), .val (.int (1 : Int32)), .val (.int c0)] []))
  refine Good.back (fun _ k => XS.iload X2.here hx rfl (hb hby own_d5_3) rfl k) ?_
  show Good p e below _ (T2.setTop (mkF m 5 #[.val (.ref r0), .val (.int (1 : Int32)), .val (.ref r2), .val (.int (1 : Int32)), .val (.int (1 : Int32)), .val (.int (1 : Int32)), .val (.int c0)] [(.int (1 : Int32))]))
  refine Good.back (fun _ k => XS.iload X2.here hx rfl (hb hby own_d5_5) rfl k) ?_
  show Good p e below _ (T2.setTop (mkF m 7 #[.val (.ref r0), .val (.int (1 : Int32)), .val (.ref r2), .val (.int (1 : Int32)), .val (.int (1 : Int32)), .val (.int (1 : Int32)), .val (.int c0)] [(.int (1 : Int32)), (.int (1 : Int32))]))
  refine Good.back (fun _ k => XS.icmpYes X2.here hx rfl (pc0 := 7) (pc' := 44) rfl (hb hby own_d5_7) rfl (flt (by decide : ¬ ((1 : Int32) < (1 : Int32)))).2.1 (by decide) (by decide) k) ?_
  show Good p e below _ (T2.setTop (mkF m 44 #[.val (.ref r0), .val (.int (1 : Int32)), .val (.ref r2), .val (.int (1 : Int32)), .val (.int (1 : Int32)), .val (.int (1 : Int32)), .val (.int c0)] []))
  refine Good.back (fun _ k => XS.iload X2.here hx rfl (hb hby own_d5_44) rfl k) ?_
  show Good p e below _ (T2.setTop (mkF m 46 #[.val (.ref r0), .val (.int (1 : Int32)), .val (.ref r2), .val (.int (1 : Int32)), .val (.int (1 : Int32)), .val (.int (1 : Int32)), .val (.int c0)] [(.int (1 : Int32))]))
  obtain ⟨fs6, hr6, hrun6, hended6, hW6, hsame6⟩ := X2.leave (v := some (.int (1 : Int32))) (fun h => by rw [Bd.returns] at h; cases h)
  refine Good.done (retI X2 hx Bd.returns (hb hby own_d5_46) hr6) hrun6 hended6 ⟨_, _, rfl, ?_, ⟨_, rfl⟩, hW6, hsame6.mono (by decide) (by decide)⟩
  show Q5n1 Z r0 r2 kc c0 kb h0 n0 _ T2.heap _
  rw [e2]
  exact ⟨rfl, N2, K5, f_3⟩
theorem own_pd23 : parseMethodDescriptor "([CI[BII)I" = some ⟨[(.array .char), .int, (.array .byte), .int, .int], some .int⟩ := by decide +kernel
theorem own_d4_0 : decode jdk_52_method_16_code 0 = .ok (.iload_n 2, 1) := by decide +kernel
theorem own_d4_1 : decode jdk_52_method_16_code 1 = .ok (.newarray .byte, 2) := by decide +kernel
theorem own_d4_3 : decode jdk_52_method_16_code 3 = .ok (.astore_n 3, 1) := by decide +kernel
theorem own_d4_4 : decode jdk_52_method_16_code 4 = .ok (.aload_n 0, 1) := by decide +kernel
theorem own_d4_5 : decode jdk_52_method_16_code 5 = .ok (.iload_n 1, 1) := by decide +kernel
theorem own_d4_6 : decode jdk_52_method_16_code 6 = .ok (.aload_n 3, 1) := by decide +kernel
theorem own_d4_7 : decode jdk_52_method_16_code 7 = .ok (.iconst 0, 1) := by decide +kernel
theorem own_d4_8 : decode jdk_52_method_16_code 8 = .ok (.iload_n 2, 1) := by decide +kernel
theorem own_d4_9 : decode jdk_52_method_16_code 9 = .ok (.invokestatic 115, 3) := by decide +kernel
theorem own_d4_12 : decode jdk_52_method_16_code 12 = .ok (.istore 4, 2) := by decide +kernel
theorem own_d4_14 : decode jdk_52_method_16_code 14 = .ok (.iload 4, 2) := by decide +kernel
theorem own_d4_16 : decode jdk_52_method_16_code 16 = .ok (.iload_n 2, 1) := by decide +kernel
theorem own_d4_17 : decode jdk_52_method_16_code 17 = .ok (.if_icmp .eq 40, 3) := by decide +kernel
theorem own_d4_57 : decode jdk_52_method_16_code 57 = .ok (.aload_n 3, 1) := by decide +kernel
theorem own_d4_58 : decode jdk_52_method_16_code 58 = .ok (.areturn, 1) := by decide +kernel
theorem own_ef_4n1 (m : MethodId) (x0 : Addr) (x1 : Int32) (x2 : Int32) : entryFrame m #[(.ref x0), (.int x1), (.int x2)] 6 = mkF m 0 #[.val (.ref x0), .val (.int x1), .val (.int x2), .unset, .unset, .unset] [] := by first | (simp [entryFrame, mkF, argsToLocals, Value.category]; done) | rfl
def Q4n1 (Z : State) (r0 : Addr) (kc : ClassId) (c0 : Int32) (h0 : Heap) (n0 : Nat) (v : Option Value) (h : Heap) (L : List Loc) : Prop := ∃ (ar : Addr) (kb : ClassId), v = some (.ref ar) ∧ Fr n0 L ∧ Keep h0 h [] ∧ h0.size ≤ ar ∧ Arv Z h ar kb .byte (1 : Int32) [(.int (c0.toInt8.toInt32).toInt8.toInt32)] (.int (0 : Int32)) ∧ Exa Z h ar "[B"
set_option maxRecDepth 65536 in
set_option maxHeartbeats 40000000 in
theorem rm4n1 (l : Launch) (Z : State) (a0 : Array Value) (hw : ∀ d ∈ tables_1, d.before a0 Z = true) (ws : List Jvm.Cond) (r0 : Addr) (kc : ClassId) (c0 : Int32) (h0 : Heap) (n0 : Nat) (Z0 : n0 ≤ h0.size) (VC : Arv Z h0 r0 kc .char (1 : Int32) [(.int c0)] (.int (0 : Int32))) (hle0 : ¬ ((255 : Int32) < c0)) :
    MetFree l (⟨"java/lang/StringUTF16", "compress", "([CII)[B"⟩ : MethodName) (head1 (Jvm.Cond.code (⟨"java/lang/StringUTF16", "compress", "([CII)[B"⟩ : MethodName) jdk_52_method_16_code 6 (some (.array .byte)) :: ws) ({ frames := 1, cells := 1, slots := 1, locals := 18 } : Room)) (fun a U => a = #[(.ref r0), (.int (0 : Int32)), (.int (1 : Int32))] ∧ Z.Warmed39 U.vm ∧ U.heap = h0) (fun _ _ _ _ _ => True) (fun _ U o U' => ∃ v L, o = .returned v ∧ Q4n1 Z r0 kc c0 h0 n0 v U'.heap L ∧ FrameEnd U o U' L ({ frames := 1, cells := 1, slots := 1, locals := 18 } : Room).cells ({ frames := 1, cells := 1, slots := 1, locals := 18 } : Room).slots) := by
  refine MetFree.of_bodySF (plainFor_of_name own_pn0) hisR ?_
  intro p e s m args below meth c s₁ Bd hml0 hP hK
  obtain ⟨rfl, hZ, hh⟩ := hP
  have hx := Bd.exec
  have hby := Bd.bytes
  have hml : c.maxLocals = 6 := hml0
  have hown : s.vm.findClass "java/lang/StringUTF16" = some m.cls := findClass_of_methodNamed Bd.named
  have hnm := (name_of_methodNamed Bd.named Bd.method).1
  have X0 : Stand p l e ({ frames := 1, cells := 1, slots := 1, locals := 18 } : Room) s m #[(.ref r0), (.int (0 : Int32)), (.int (1 : Int32))] below meth c s₁ [] 0 0 := Stand.of_body Bd
  have e0 : s₁.heap = h0 := by rw [← hh, Bd.state]; rfl
  have N0 := Fr.nil n0
  have KR : Keep h0 h0 [] := Keep.refl h0 _
  show Good p e below (fun o U' => ∃ v L, o = .returned v ∧ Q4n1 Z r0 kc c0 h0 n0 v U'.heap L ∧ FrameEnd s o U' L ({ frames := 1, cells := 1, slots := 1, locals := 18 } : Room).cells ({ frames := 1, cells := 1, slots := 1, locals := 18 } : Room).slots) _
  refine Good.back (S' := s₁.setTop (mkF m 0 #[.val (.ref r0), .val (.int (0 : Int32)), .val (.int (1 : Int32)), .unset, .unset, .unset] [])) (fun t k => castTop (own_ef_4n1 m r0 (0 : Int32) (1 : Int32)) k) ?_
  show Good p e below _ (s₁.setTop (mkF m 0 #[.val (.ref r0), .val (.int (0 : Int32)), .val (.int (1 : Int32)), .unset, .unset, .unset] []))
  refine Good.back (fun _ k => XS.iloadN X0.here hx rfl (hb hby own_d4_0) rfl k) ?_
  show Good p e below _ (s₁.setTop (mkF m 1 #[.val (.ref r0), .val (.int (0 : Int32)), .val (.int (1 : Int32)), .unset, .unset, .unset] [(.int (1 : Int32))]))
  obtain ⟨T1, h1, k1, X1, e1, E1, A1, B1, st1⟩ := newPE X0 hx hZ (hw _ (List.mem_of_getElem? (i := 7) rfl)) e0 (g := (mkF m 1 #[.val (.ref r0), .val (.int (0 : Int32)), .val (.int (1 : Int32)), .unset, .unset, .unset] [(.int (1 : Int32))])) rfl (hb hby own_d4_1) rfl (by decide) (cap := 1) (by decide) (by decide) (by decide) (by decide) (ad := "[B") (by decide +kernel)
  obtain ⟨b1, g1⟩ : ∃ z, z = h0.size := ⟨_, rfl⟩
  rw [← g1] at A1 B1 st1
  refine Good.back st1 ?_
  have g_b1 : n0 ≤ b1 := Nat.le_trans Z0 (Nat.le_of_eq g1.symm)
  have sz_b1 : h0.size ≤ b1 := Nat.le_trans KR.1 (Nat.le_of_eq g1.symm)
  have Z2 : n0 ≤ h1.size := Nat.le_trans Z0 E1.1
  have K3 : Keep h0 h1 [] := KR.ext E1
  have f_4 : Exa Z h1 b1 "[B" := B1
  have f_5 : Arv Z h1 b1 k1 .byte (1 : Int32) [(.int (0 : Int32))] (.int (0 : Int32)) := (Arv.new A1 (by decide)).pad (pad_rep [] (.int (0 : Int32)) 1)
  show Good p e below _ (T1.setTop (mkF m 3 #[.val (.ref r0), .val (.int (0 : Int32)), .val (.int (1 : Int32)), .unset, .unset, .unset] [(.ref b1)]))
  refine Good.back (fun _ k => XS.astoreN X1.here hx rfl (hb hby own_d4_3) rfl rfl (l' := #[.val (.ref r0), .val (.int (0 : Int32)), .val (.int (1 : Int32)), .val (.ref b1), .unset, .unset]) rfl k) ?_
  show Good p e below _ (T1.setTop (mkF m 4 #[.val (.ref r0), .val (.int (0 : Int32)), .val (.int (1 : Int32)), .val (.ref b1), .unset, .unset] []))
  refine Good.back (fun _ k => XS.aloadN X1.here hx rfl (hb hby own_d4_4) rfl rfl k) ?_
  show Good p e below _ (T1.setTop (mkF m 5 #[.val (.ref r0), .val (.int (0 : Int32)), .val (.int (1 : Int32)), .val (.ref b1), .unset, .unset] [(.ref r0)]))
  refine Good.back (fun _ k => XS.iloadN X1.here hx rfl (hb hby own_d4_5) rfl k) ?_
  show Good p e below _ (T1.setTop (mkF m 6 #[.val (.ref r0), .val (.int (0 : Int32)), .val (.int (1 : Int32)), .val (.ref b1), .unset, .unset] [(.int (0 : Int32)), (.ref r0)]))
  refine Good.back (fun _ k => XS.aloadN X1.here hx rfl (hb hby own_d4_6) rfl rfl k) ?_
  show Good p e below _ (T1.setTop (mkF m 7 #[.val (.ref r0), .val (.int (0 : Int32)), .val (.int (1 : Int32)), .val (.ref b1), .unset, .unset] [(.ref b1), (.int (0 : Int32)), (.ref r0)]))
  refine Good.back (fun _ k => XS.iconst X1.here hx rfl (hb hby own_d4_7) k) ?_
  show Good p e below _ (T1.setTop (mkF m 8 #[.val (.ref r0), .val (.int (0 : Int32)), .val (.int (1 : Int32)), .val (.ref b1), .unset, .unset] [(.int (0 : Int32)), (.ref b1), (.int (0 : Int32)), (.ref r0)]))
  refine Good.back (fun _ k => XS.iloadN X1.here hx rfl (hb hby own_d4_8) rfl k) ?_
  show Good p e below _ (T1.setTop (mkF m 9 #[.val (.ref r0), .val (.int (0 : Int32)), .val (.int (1 : Int32)), .val (.ref b1), .unset, .unset] [(.int (1 : Int32)), (.int (0 : Int32)), (.ref b1), (.int (0 : Int32)), (.ref r0)]))
  have f_7 : Arv Z h1 r0 kc .char (1 : Int32) [(.int c0)] (.int (0 : Int32)) := Arv.ext VC E1
  have ne_r0_b1_8 : r0 ≠ b1 := Nat.ne_of_lt (Nat.lt_of_lt_of_le VC.lt (Nat.le_of_eq g1.symm))
  obtain ⟨_, _, ⟨T6, L6, k6, n6⟩, -, X6, ⟨Lc6, hQ6, l6, y6, z6⟩, st6⟩ := Jvm.LawKit.callS X1 hx (y := (⟨"java/lang/StringUTF16", "compress", "([CI[BII)I"⟩ : MethodName)) hown (mvT hZ (hw _ (List.mem_of_getElem? (i := 28) rfl))) (mvT hZ (hw _ (List.mem_of_getElem? (i := 29) rfl))) (mvT hZ (hw _ (List.mem_of_getElem? (i := 26) rfl))) (mvT hZ (hw _ (List.mem_of_getElem? (i := 30) rfl))) (by decide) (backOf (W := 0) (rm5n1 l Z a0 hw [] r0 b1 kc c0 k1 h1 n0 Z2 f_7 f_5 g_b1 ne_r0_b1_8 (by first | assumption | decide)) hZ (hw _ (List.mem_of_getElem? (i := 30) rfl)) (hw _ (List.mem_of_getElem? (i := 26) rfl)) (by decide) (by decide)) (g := (mkF m 9 #[.val (.ref r0), .val (.int (0 : Int32)), .val (.int (1 : Int32)), .val (.ref b1), .unset, .unset] [(.int (1 : Int32)), (.int (0 : Int32)), (.ref b1), (.int (0 : Int32)), (.ref r0)])) rfl (by rw [hml]; rfl) (argsL := [(.ref r0), (.int (0 : Int32)), (.ref b1), (.int (0 : Int32)), (.int (1 : Int32))]) (rest := []) (lenOf own_pd23 rfl) rfl (by show 2 * 0 + _ ≤ _; exact Nat.le_of_eq rfl) (hb hby own_d4_9) (fun _ _ => ⟨rfl, e1, (by decide : 1 + 0 ≤ _), (by decide : 1 + 0 ≤ _)⟩)
  dsimp only [Pt.U, Pt.locs, Pt.cells, Pt.slots] at X6 l6 y6 z6 st6 hQ6
  subst l6 y6 z6
  obtain ⟨rfl, N6q, Kq6, o6_0⟩ := hQ6
  have N6 := Fr.app N0 N6q
  have Z9 : n0 ≤ T6.heap.size := Nat.le_trans Z2 Kq6.1
  have K10 : Keep h0 T6.heap [] := K3.trans Kq6 (allS (Or.inr sz_b1) all0)
  refine Good.back st6 ?_
  show Good p e below _ (T6.setTop (mkF m 12 #[.val (.ref r0), .val (.int (0 : Int32)), .val (.int (1 : Int32)), .val (.ref b1), .unset, .unset] [(.int (1 : Int32))]))
  refine Good.back (fun _ k => XS.istore X6.here hx rfl (hb hby own_d4_12) rfl (l' := #[.val (.ref r0), .val (.int (0 : Int32)), .val (.int (1 : Int32)), .val (.ref b1), .val (.int (1 : Int32)), .unset]) rfl k) ?_
  show Good p e below _ (T6.setTop (mkF m 14 #[.val (.ref r0), .val (.int (0 : Int32)), .val (.int (1 : Int32)), .val (.ref b1), .val (.int (1 : Int32)), .unset] []))
  refine Good.back (fun _ k => XS.iload X6.here hx rfl (hb hby own_d4_14) rfl k) ?_
  show Good p e below _ (T6.setTop (mkF m 16 #[.val (.ref r0), .val (.int (0 : Int32)), .val (.int (1 : Int32)), .val (.ref b1), .val (.int (1 : Int32)), .unset] [(.int (1 : Int32))]))
  refine Good.back (fun _ k => XS.iloadN X6.here hx rfl (hb hby own_d4_16) rfl k) ?_
  show Good p e below _ (T6.setTop (mkF m 17 #[.val (.ref r0), .val (.int (0 : Int32)), .val (.int (1 : Int32)), .val (.ref b1), .val (.int (1 : Int32)), .unset] [(.int (1 : Int32)), (.int (1 : Int32))]))
  refine Good.back (fun _ k => XS.icmpYes X6.here hx rfl (pc0 := 17) (pc' := 57) rfl (hb hby own_d4_17) rfl (teq (by decide : ((1 : Int32) = (1 : Int32)))).1 (by decide) (by decide) k) ?_
  show Good p e below _ (T6.setTop (mkF m 57 #[.val (.ref r0), .val (.int (0 : Int32)), .val (.int (1 : Int32)), .val (.ref b1), .val (.int (1 : Int32)), .unset] []))
  refine Good.back (fun _ k => XS.aloadN X6.here hx rfl (hb hby own_d4_57) rfl rfl k) ?_
  show Good p e below _ (T6.setTop (mkF m 58 #[.val (.ref r0), .val (.int (0 : Int32)), .val (.int (1 : Int32)), .val (.ref b1), .val (.int (1 : Int32)), .unset] [(.ref b1)]))
  obtain ⟨fs11, hr11, hrun11, hended11, hW11, hsame11⟩ := X6.leave (v := some (.ref b1)) (fun h => by rw [Bd.returns] at h; cases h)
  refine Good.done (retOut X6 hx Bd.returns rfl (Or.inr (Or.inr (Or.inr (Or.inr ⟨rfl, rfl, rfl⟩)))) (hb hby own_d4_58) hr11) hrun11 hended11 ⟨_, _, rfl, ?_, ⟨_, rfl⟩, hW11, hsame11.mono (by decide) (by decide)⟩
  show Q4n1 Z r0 kc c0 h0 n0 _ T6.heap _
  have f_12 : Exa Z T6.heap b1 "[B" := Exa.keep f_4 Kq6
  exact ⟨_, _, rfl, N6, K10, sz_b1, o6_0, f_12⟩
theorem own_d6_0 : decode jdk_52_method_15_code 0 = .ok (.iload_n 1, 1) := by decide +kernel
theorem own_d6_1 : decode jdk_52_method_15_code 1 = .ok (.aload_n 0, 1) := by decide +kernel
theorem own_d6_2 : decode jdk_52_method_15_code 2 = .ok (.arraylength, 1) := by decide +kernel
theorem own_d6_3 : decode jdk_52_method_15_code 3 = .ok (.isub, 1) := by decide +kernel
theorem own_d6_4 : decode jdk_52_method_15_code 4 = .ok (.bipush 31, 2) := by decide +kernel
theorem own_d6_6 : decode jdk_52_method_15_code 6 = .ok (.iushr, 1) := by decide +kernel
theorem own_d6_7 : decode jdk_52_method_15_code 7 = .ok (.i2b, 1) := by decide +kernel
theorem own_d6_8 : decode jdk_52_method_15_code 8 = .ok (.ireturn, 1) := by decide +kernel
theorem own_ef_6n1 (m : MethodId) (x0 : Addr) (x1 : Int32) : entryFrame m #[(.ref x0), (.int x1)] 2 = mkF m 0 #[.val (.ref x0), .val (.int x1)] [] := by first | (simp [entryFrame, mkF, argsToLocals, Value.category]; done) | rfl
def Q6n1 (Z : State) (r0 : Addr) (kb : ClassId) (d0 : Value) (h0 : Heap) (n0 : Nat) (v : Option Value) (h : Heap) (L : List Loc) : Prop := v = some (.int 0) ∧ Fr n0 L ∧ h = h0
set_option maxRecDepth 65536 in
set_option maxHeartbeats 40000000 in
theorem rm6n1 (l : Launch) (Z : State) (a0 : Array Value) (hw : ∀ d ∈ tables_1, d.before a0 Z = true) (ws : List Jvm.Cond) (r0 : Addr) (kb : ClassId) (d0 : Value) (h0 : Heap) (n0 : Nat) (Z0 : n0 ≤ h0.size) (VB : Arv Z h0 r0 kb .byte (1 : Int32) [d0] (.int (0 : Int32))) :
    MetFree l (⟨"java/lang/StringUTF16", "coderFromArrayLen", "([BI)B"⟩ : MethodName) (head1 (Jvm.Cond.code (⟨"java/lang/StringUTF16", "coderFromArrayLen", "([BI)B"⟩ : MethodName) jdk_52_method_15_code 2 (some .byte) :: ws) ({ frames := 0, cells := 0, slots := 0, locals := 0 } : Room)) (fun a U => a = #[(.ref r0), (.int (1 : Int32))] ∧ Z.Warmed39 U.vm ∧ U.heap = h0) (fun _ _ _ _ _ => True) (fun _ U o U' => ∃ v L, o = .returned v ∧ Q6n1 Z r0 kb d0 h0 n0 v U'.heap L ∧ FrameEnd U o U' L ({ frames := 0, cells := 0, slots := 0, locals := 0 } : Room).cells ({ frames := 0, cells := 0, slots := 0, locals := 0 } : Room).slots) := by
  refine MetFree.of_bodySF (plainFor_of_name own_pn0) hisR ?_
  intro p e s m args below meth c s₁ Bd hml0 hP hK
  obtain ⟨rfl, hZ, hh⟩ := hP
  have hx := Bd.exec
  have hby := Bd.bytes
  have hml : c.maxLocals = 2 := hml0
  have hown : s.vm.findClass "java/lang/StringUTF16" = some m.cls := findClass_of_methodNamed Bd.named
  have hnm := (name_of_methodNamed Bd.named Bd.method).1
  have X0 : Stand p l e ({ frames := 0, cells := 0, slots := 0, locals := 0 } : Room) s m #[(.ref r0), (.int (1 : Int32))] below meth c s₁ [] 0 0 := Stand.of_body Bd
  have e0 : s₁.heap = h0 := by rw [← hh, Bd.state]; rfl
  have N0 := Fr.nil n0
  show Good p e below (fun o U' => ∃ v L, o = .returned v ∧ Q6n1 Z r0 kb d0 h0 n0 v U'.heap L ∧ FrameEnd s o U' L ({ frames := 0, cells := 0, slots := 0, locals := 0 } : Room).cells ({ frames := 0, cells := 0, slots := 0, locals := 0 } : Room).slots) _
  refine Good.back (S' := s₁.setTop (mkF m 0 #[.val (.ref r0), .val (.int (1 : Int32))] [])) (fun t k => castTop (own_ef_6n1 m r0 (1 : Int32)) k) ?_
  show Good p e below _ (s₁.setTop (mkF m 0 #[.val (.ref r0), .val (.int (1 : Int32))] []))
  refine Good.back (fun _ k => XS.iloadN X0.here hx rfl (hb hby own_d6_0) rfl k) ?_
  show Good p e below _ (s₁.setTop (mkF m 1 #[.val (.ref r0), .val (.int (1 : Int32))] [(.int (1 : Int32))]))
  refine Good.back (fun _ k => XS.aloadN X0.here hx rfl (hb hby own_d6_1) rfl rfl k) ?_
  show Good p e below _ (s₁.setTop (mkF m 2 #[.val (.ref r0), .val (.int (1 : Int32))] [(.ref r0), (.int (1 : Int32))]))
  have fc1 := VB
  obtain ⟨cl1, Ar1, qk1, S1, N1', H1, G1⟩ := fc1
  refine Good.back (X0.arraylength hx (by rw [e0]; exact Ar1.1) (State.isArrayOf_alike hZ.alike Ar1.2.1) (g := (mkF m 2 #[.val (.ref r0), .val (.int (1 : Int32))] [(.ref r0), (.int (1 : Int32))])) rfl rfl (hb hby own_d6_2)) ?_
  rw [len_of S1 N1']
  show Good p e below _ (s₁.setTop (mkF m 3 #[.val (.ref r0), .val (.int (1 : Int32))] [(.int (1 : Int32)), (.int (1 : Int32))]))
  refine Good.back (fun _ k => XS.isub X0.here hx rfl (hb hby own_d6_3) rfl k) ?_
  show Good p e below _ (s₁.setTop (mkF m 4 #[.val (.ref r0), .val (.int (1 : Int32))] [(.int ((1 : Int32) - (1 : Int32)))]))
  rw [show (((1 : Int32) - (1 : Int32)) : Int32) = (0 : Int32) from by decide]
  show Good p e below _ (s₁.setTop (mkF m 4 #[.val (.ref r0), .val (.int (1 : Int32))] [(.int (0 : Int32))]))
  refine Good.back (fun _ k => XS.bipush X0.here hx rfl (hb hby own_d6_4) k) ?_
  show Good p e below _ (s₁.setTop (mkF m 6 #[.val (.ref r0), .val (.int (1 : Int32))] [(.int (31 : Int32)), (.int (0 : Int32))]))
  refine Good.back (fun _ k => XS.iushr X0.here hx rfl (hb hby own_d6_6) rfl k) ?_
  show Good p e below _ (s₁.setTop (mkF m 7 #[.val (.ref r0), .val (.int (1 : Int32))] [(.int (((0 : Int32).toUInt32 >>> ((31 : Int32) &&& 31).toUInt32).toInt32))]))
  rw [show ((((0 : Int32).toUInt32 >>> ((31 : Int32) &&& 31).toUInt32).toInt32) : Int32) = (0 : Int32) from by decide]
  show Good p e below _ (s₁.setTop (mkF m 7 #[.val (.ref r0), .val (.int (1 : Int32))] [(.int (0 : Int32))]))
  refine Good.back (fun _ k => XS.i2b X0.here hx rfl (hb hby own_d6_7) rfl k) ?_
  show Good p e below _ (s₁.setTop (mkF m 8 #[.val (.ref r0), .val (.int (1 : Int32))] [(.int ((0 : Int32).toInt8.toInt32))]))
  obtain ⟨fs2, hr2, hrun2, hended2, hW2, hsame2⟩ := X0.leave (v := some (.int (nar .byte ((0 : Int32).toInt8.toInt32)))) (fun h => by rw [Bd.returns] at h; cases h)
  refine Good.done (retN X0 hx (t := .byte) Bd.returns (by simp) (hb hby own_d6_8) hr2) hrun2 hended2 ⟨_, _, rfl, ?_, ⟨_, rfl⟩, hW2, hsame2.mono (by decide) (by decide)⟩
  show Q6n1 Z r0 kb d0 h0 n0 _ s₁.heap _
  rw [e0]
  exact ⟨congrArg (fun z => some (Value.int z)) (by decide), N0, rfl⟩
theorem own_pd47 : parseMethodDescriptor "([CII)[B" = some ⟨[(.array .char), .int, .int], some (.array .byte)⟩ := by decide +kernel
theorem own_pd48 : parseMethodDescriptor "([BI)B" = some ⟨[(.array .byte), .int], some .byte⟩ := by decide +kernel
theorem own_pn1 : plainName "java/lang/String" = true := by first | (simp [plainName, overriddenIn]; done) | decide +kernel
theorem own_d2_0 : decode jdk_42_method_149_code 0 = .ok (.aload_n 0, 1) := by decide +kernel
theorem own_d2_1 : decode jdk_42_method_149_code 1 = .ok (.invokespecial 1, 3) := by decide +kernel
theorem own_d2_4 : decode jdk_42_method_149_code 4 = .ok (.iload_n 3, 1) := by decide +kernel
theorem own_d2_5 : decode jdk_42_method_149_code 5 = .ok (.ifCond .ne 22, 3) := by decide +kernel
theorem own_d2_27 : decode jdk_42_method_149_code 27 = .ok (.getstatic 38, 3) := by decide +kernel
theorem own_d2_30 : decode jdk_42_method_149_code 30 = .ok (.ifCond .eq 28, 3) := by decide +kernel
theorem own_d2_33 : decode jdk_42_method_149_code 33 = .ok (.aload_n 1, 1) := by decide +kernel
theorem own_d2_34 : decode jdk_42_method_149_code 34 = .ok (.iload_n 2, 1) := by decide +kernel
theorem own_d2_35 : decode jdk_42_method_149_code 35 = .ok (.iload_n 3, 1) := by decide +kernel
theorem own_d2_36 : decode jdk_42_method_149_code 36 = .ok (.invokestatic 177, 3) := by decide +kernel
theorem own_d2_39 : decode jdk_42_method_149_code 39 = .ok (.astore 5, 2) := by decide +kernel
theorem own_d2_41 : decode jdk_42_method_149_code 41 = .ok (.aload_n 0, 1) := by decide +kernel
theorem own_d2_42 : decode jdk_42_method_149_code 42 = .ok (.aload 5, 2) := by decide +kernel
theorem own_d2_44 : decode jdk_42_method_149_code 44 = .ok (.iload_n 3, 1) := by decide +kernel
theorem own_d2_45 : decode jdk_42_method_149_code 45 = .ok (.invokestatic 47, 3) := by decide +kernel
theorem own_d2_48 : decode jdk_42_method_149_code 48 = .ok (.putfield 15, 3) := by decide +kernel
theorem own_d2_51 : decode jdk_42_method_149_code 51 = .ok (.aload_n 0, 1) := by decide +kernel
theorem own_d2_52 : decode jdk_42_method_149_code 52 = .ok (.aload 5, 2) := by decide +kernel
theorem own_d2_54 : decode jdk_42_method_149_code 54 = .ok (.putfield 9, 3) := by decide +kernel
theorem own_d2_57 : decode jdk_42_method_149_code 57 = .ok (.return_, 1) := by decide +kernel
theorem own_ef_2n1 (m : MethodId) (x0 : Addr) (x1 : Addr) (x2 : Int32) (x3 : Int32) : entryFrame m #[(.ref x0), (.ref x1), (.int x2), (.int x3), .null] 6 = mkF m 0 #[.val (.ref x0), .val (.ref x1), .val (.int x2), .val (.int x3), .val .null, .unset] [] := by first | (simp [entryFrame, mkF, argsToLocals, Value.category]; done) | rfl
def Q2n1 (Z : State) (r0 : Addr) (r1 : Addr) (cs : Int32) (kc : ClassId) (c0 : Int32) (h0 : Heap) (n0 : Nat) (v : Option Value) (h : Heap) (L : List Loc) : Prop := ∃ (ar : Addr) (kb : ClassId), v = none ∧ Fr n0 L ∧ Keep h0 h [r0] ∧ h0.size ≤ ar ∧ Fld Z h r0 "java/lang/String" "value" "[B" (.ref ar) ∧ Fld Z h r0 "java/lang/String" "coder" "B" (.int (0 : Int32)) ∧ Arv Z h ar kb .byte (1 : Int32) [(.int (c0.toInt8.toInt32).toInt8.toInt32)] (.int (0 : Int32)) ∧ Exa Z h ar "[B"
set_option maxRecDepth 65536 in
set_option maxHeartbeats 40000000 in
theorem rm2n1 (l : Launch) (Z : State) (a0 : Array Value) (hw : ∀ d ∈ tables_1, d.before a0 Z = true) (ws : List Jvm.Cond) (r0 : Addr) (r1 : Addr) (cs : Int32) (kc : ClassId) (c0 : Int32) (h0 : Heap) (n0 : Nat) (Z0 : n0 ≤ h0.size) (S_cs : Sta Z h0 "java/lang/String" "COMPACT_STRINGS" "Z" (.int cs)) (hcs : ¬ (cs = (0 : Int32))) (E0 : Exa Z h0 r0 "java/lang/String") (g0 : n0 ≤ r0) (F_value : Fld Z h0 r0 "java/lang/String" "value" "[B" .null) (F_coder : Fld Z h0 r0 "java/lang/String" "coder" "B" (.int (0 : Int32))) (VC : Arv Z h0 r1 kc .char (1 : Int32) [(.int c0)] (.int (0 : Int32))) (hle0 : ¬ ((255 : Int32) < c0)) :
    MetFree l (⟨"java/lang/String", "<init>", "([CIILjava/lang/Void;)V"⟩ : MethodName) (head1 (Jvm.Cond.code (⟨"java/lang/String", "<init>", "([CIILjava/lang/Void;)V"⟩ : MethodName) jdk_42_method_149_code 6 none :: ws) ({ frames := 2, cells := 1, slots := 1, locals := 35 } : Room)) (fun a U => a = #[(.ref r0), (.ref r1), (.int (0 : Int32)), (.int (1 : Int32)), .null] ∧ Z.Warmed39 U.vm ∧ U.heap = h0) (fun _ _ _ _ _ => True) (fun _ U o U' => ∃ v L, o = .returned v ∧ Q2n1 Z r0 r1 cs kc c0 h0 n0 v U'.heap L ∧ FrameEnd U o U' L ({ frames := 2, cells := 1, slots := 1, locals := 35 } : Room).cells ({ frames := 2, cells := 1, slots := 1, locals := 35 } : Room).slots) := by
  refine MetFree.of_bodySF (plainFor_of_name own_pn1) hisR ?_
  intro p e s m args below meth c s₁ Bd hml0 hP hK
  obtain ⟨rfl, hZ, hh⟩ := hP
  have hx := Bd.exec
  have hby := Bd.bytes
  have hml : c.maxLocals = 6 := hml0
  have hown : s.vm.findClass "java/lang/String" = some m.cls := findClass_of_methodNamed Bd.named
  have hnm := (name_of_methodNamed Bd.named Bd.method).1
  have X0 : Stand p l e ({ frames := 2, cells := 1, slots := 1, locals := 35 } : Room) s m #[(.ref r0), (.ref r1), (.int (0 : Int32)), (.int (1 : Int32)), .null] below meth c s₁ [] 0 0 := Stand.of_body Bd
  have e0 : s₁.heap = h0 := by rw [← hh, Bd.state]; rfl
  have N0 := Fr.nil n0
  have KR : Keep h0 h0 [r0] := Keep.refl h0 _
  show Good p e below (fun o U' => ∃ v L, o = .returned v ∧ Q2n1 Z r0 r1 cs kc c0 h0 n0 v U'.heap L ∧ FrameEnd s o U' L ({ frames := 2, cells := 1, slots := 1, locals := 35 } : Room).cells ({ frames := 2, cells := 1, slots := 1, locals := 35 } : Room).slots) _
  refine Good.back (S' := s₁.setTop (mkF m 0 #[.val (.ref r0), .val (.ref r1), .val (.int (0 : Int32)), .val (.int (1 : Int32)), .val .null, .unset] [])) (fun t k => castTop (own_ef_2n1 m r0 r1 (0 : Int32) (1 : Int32)) k) ?_
  show Good p e below _ (s₁.setTop (mkF m 0 #[.val (.ref r0), .val (.ref r1), .val (.int (0 : Int32)), .val (.int (1 : Int32)), .val .null, .unset] []))
  refine Good.back (fun _ k => XS.aloadN X0.here hx rfl (hb hby own_d2_0) rfl rfl k) ?_
  show Good p e below _ (s₁.setTop (mkF m 1 #[.val (.ref r0), .val (.ref r1), .val (.int (0 : Int32)), .val (.int (1 : Int32)), .val .null, .unset] [(.ref r0)]))
  obtain ⟨T1, X1, e1, st1⟩ := initO X0 hx hZ hown (hw _ (List.mem_of_getElem? (i := 20) rfl)) (hw _ (List.mem_of_getElem? (i := 21) rfl)) (hw _ (List.mem_of_getElem? (i := 22) rfl)) e0 (g := (mkF m 1 #[.val (.ref r0), .val (.ref r1), .val (.int (0 : Int32)), .val (.int (1 : Int32)), .val .null, .unset] [(.ref r0)])) rfl (by rw [hml]; rfl) rfl (hb hby own_d2_1) (by decide) (W := 0) (by show 2 * 0 + _ ≤ _; exact Nat.le_of_eq rfl) (by decide)
  refine Good.back st1 ?_
  show Good p e below _ (T1.setTop (mkF m 4 #[.val (.ref r0), .val (.ref r1), .val (.int (0 : Int32)), .val (.int (1 : Int32)), .val .null, .unset] []))
  refine Good.back (fun _ k => XS.iloadN X1.here hx rfl (hb hby own_d2_4) rfl k) ?_
  show Good p e below _ (T1.setTop (mkF m 5 #[.val (.ref r0), .val (.ref r1), .val (.int (0 : Int32)), .val (.int (1 : Int32)), .val .null, .unset] [(.int (1 : Int32))]))
  refine Good.back (fun _ k => XS.ifYes X1.here hx rfl (pc0 := 5) (pc' := 27) rfl (hb hby own_d2_5) rfl ((if0 _ _).trans (feq (by decide : ¬ ((1 : Int32) = (0 : Int32)))).2) (by decide) (by decide) k) ?_
  show Good p e below _ (T1.setTop (mkF m 27 #[.val (.ref r0), .val (.ref r1), .val (.int (0 : Int32)), .val (.int (1 : Int32)), .val .null, .unset] []))
  obtain ⟨T2, X2, e2, st2⟩ := getS2 X1 hx hZ hown (host := "") (Or.inl (hw _ (List.mem_of_getElem? (i := 23) rfl))) Via.refl e1 S_cs (g := (mkF m 27 #[.val (.ref r0), .val (.ref r1), .val (.int (0 : Int32)), .val (.int (1 : Int32)), .val .null, .unset] [])) rfl (hb hby own_d2_27)
  refine Good.back st2 ?_
  show Good p e below _ (T2.setTop (mkF m 30 #[.val (.ref r0), .val (.ref r1), .val (.int (0 : Int32)), .val (.int (1 : Int32)), .val .null, .unset] [(.int cs)]))
  refine Good.back (fun _ k => XS.ifNo X2.here hx rfl (hb hby own_d2_30) rfl ((if0 _ _).trans (feq hcs).1) k) ?_
  show Good p e below _ (T2.setTop (mkF m 33 #[.val (.ref r0), .val (.ref r1), .val (.int (0 : Int32)), .val (.int (1 : Int32)), .val .null, .unset] []))
  refine Good.back (fun _ k => XS.aloadN X2.here hx rfl (hb hby own_d2_33) rfl rfl k) ?_
  show Good p e below _ (T2.setTop (mkF m 34 #[.val (.ref r0), .val (.ref r1), .val (.int (0 : Int32)), .val (.int (1 : Int32)), .val .null, .unset] [(.ref r1)]))
  refine Good.back (fun _ k => XS.iloadN X2.here hx rfl (hb hby own_d2_34) rfl k) ?_
  show Good p e below _ (T2.setTop (mkF m 35 #[.val (.ref r0), .val (.ref r1), .val (.int (0 : Int32)), .val (.int (1 : Int32)), .val .null, .unset] [(.int (0 : Int32)), (.ref r1)]))
  refine Good.back (fun _ k => XS.iloadN X2.here hx rfl (hb hby own_d2_35) rfl k) ?_
  show Good p e below _ (T2.setTop (mkF m 36 #[.val (.ref r0), .val (.ref r1), .val (.int (0 : Int32)), .val (.int (1 : Int32)), .val .null, .unset] [(.int (1 : Int32)), (.int (0 : Int32)), (.ref r1)]))
  obtain ⟨_, _, ⟨T3, L3, k3, n3⟩, -, X3, ⟨Lc3, hQ3, l3, y3, z3⟩, st3⟩ := Jvm.LawKit.callS X2 hx (y := (⟨"java/lang/StringUTF16", "compress", "([CII)[B"⟩ : MethodName)) hown (mvT hZ (hw _ (List.mem_of_getElem? (i := 24) rfl))) (mvT hZ (hw _ (List.mem_of_getElem? (i := 25) rfl))) (mvT hZ (hw _ (List.mem_of_getElem? (i := 26) rfl))) (mvT hZ (hw _ (List.mem_of_getElem? (i := 27) rfl))) (by decide) (backOf (W := 0) (rm4n1 l Z a0 hw [] r1 kc c0 h0 n0 Z0 VC (by first | assumption | decide)) hZ (hw _ (List.mem_of_getElem? (i := 27) rfl)) (hw _ (List.mem_of_getElem? (i := 26) rfl)) (by decide) (by decide)) (g := (mkF m 36 #[.val (.ref r0), .val (.ref r1), .val (.int (0 : Int32)), .val (.int (1 : Int32)), .val .null, .unset] [(.int (1 : Int32)), (.int (0 : Int32)), (.ref r1)])) rfl (by rw [hml]; rfl) (argsL := [(.ref r1), (.int (0 : Int32)), (.int (1 : Int32))]) (rest := []) (lenOf own_pd47 rfl) rfl (by show 2 * 0 + _ ≤ _; exact Nat.le_of_eq rfl) (hb hby own_d2_36) (fun _ _ => ⟨rfl, e2, (by decide : 0 + 1 ≤ _), (by decide : 0 + 1 ≤ _)⟩)
  dsimp only [Pt.U, Pt.locs, Pt.cells, Pt.slots] at X3 l3 y3 z3 st3 hQ3
  subst l3 y3 z3
  obtain ⟨ar_3, kb_3, rfl, N3q, Kq3, o3_0, o3_1, o3_2⟩ := hQ3
  have N3 := Fr.app N0 N3q
  have Z4 : n0 ≤ T3.heap.size := Nat.le_trans Z0 Kq3.1
  have K5 : Keep h0 T3.heap [r0] := KR.trans Kq3 all0
  have g_ar_3 : n0 ≤ ar_3 := Nat.le_trans Z0 o3_0
  have sz_ar_3 : h0.size ≤ ar_3 := Nat.le_trans KR.1 o3_0
  refine Good.back st3 ?_
  show Good p e below _ (T3.setTop (mkF m 39 #[.val (.ref r0), .val (.ref r1), .val (.int (0 : Int32)), .val (.int (1 : Int32)), .val .null, .unset] [(.ref ar_3)]))
  refine Good.back (fun _ k => XS.astore X3.here hx rfl (hb hby own_d2_39) rfl rfl (l' := #[.val (.ref r0), .val (.ref r1), .val (.int (0 : Int32)), .val (.int (1 : Int32)), .val .null, .val (.ref ar_3)]) rfl k) ?_
  show Good p e below _ (T3.setTop (mkF m 41 #[.val (.ref r0), .val (.ref r1), .val (.int (0 : Int32)), .val (.int (1 : Int32)), .val .null, .val (.ref ar_3)] []))
  refine Good.back (fun _ k => XS.aloadN X3.here hx rfl (hb hby own_d2_41) rfl rfl k) ?_
  show Good p e below _ (T3.setTop (mkF m 42 #[.val (.ref r0), .val (.ref r1), .val (.int (0 : Int32)), .val (.int (1 : Int32)), .val .null, .val (.ref ar_3)] [(.ref r0)]))
  refine Good.back (fun _ k => XS.aload X3.here hx rfl (hb hby own_d2_42) rfl rfl k) ?_
  show Good p e below _ (T3.setTop (mkF m 44 #[.val (.ref r0), .val (.ref r1), .val (.int (0 : Int32)), .val (.int (1 : Int32)), .val .null, .val (.ref ar_3)] [(.ref ar_3), (.ref r0)]))
  refine Good.back (fun _ k => XS.iloadN X3.here hx rfl (hb hby own_d2_44) rfl k) ?_
  show Good p e below _ (T3.setTop (mkF m 45 #[.val (.ref r0), .val (.ref r1), .val (.int (0 : Int32)), .val (.int (1 : Int32)), .val .null, .val (.ref ar_3)] [(.int (1 : Int32)), (.ref ar_3), (.ref r0)]))
  obtain ⟨_, _, ⟨T6, L6, k6, n6⟩, -, X6, ⟨Lc6, hQ6, l6, y6, z6⟩, st6⟩ := Jvm.LawKit.callS X3 hx (y := (⟨"java/lang/StringUTF16", "coderFromArrayLen", "([BI)B"⟩ : MethodName)) hown (mvT hZ (hw _ (List.mem_of_getElem? (i := 31) rfl))) (mvT hZ (hw _ (List.mem_of_getElem? (i := 32) rfl))) (mvT hZ (hw _ (List.mem_of_getElem? (i := 26) rfl))) (mvT hZ (hw _ (List.mem_of_getElem? (i := 33) rfl))) (by decide) (backOf (W := 1) (rm6n1 l Z a0 hw [] ar_3 kb_3 (.int (c0.toInt8.toInt32).toInt8.toInt32) T3.heap n0 Z4 o3_1) hZ (hw _ (List.mem_of_getElem? (i := 33) rfl)) (hw _ (List.mem_of_getElem? (i := 26) rfl)) (by decide) (by decide)) (g := (mkF m 45 #[.val (.ref r0), .val (.ref r1), .val (.int (0 : Int32)), .val (.int (1 : Int32)), .val .null, .val (.ref ar_3)] [(.int (1 : Int32)), (.ref ar_3), (.ref r0)])) rfl (by rw [hml]; rfl) (argsL := [(.ref ar_3), (.int (1 : Int32))]) (rest := [(.ref r0)]) (lenOf own_pd48 rfl) rfl (by show 2 * 0 + _ ≤ _; exact Nat.le_of_eq rfl) (hb hby own_d2_45) (fun _ _ => ⟨rfl, rfl, (by decide : 1 + 0 ≤ _), (by decide : 1 + 0 ≤ _)⟩)
  dsimp only [Pt.U, Pt.locs, Pt.cells, Pt.slots] at X6 l6 y6 z6 st6 hQ6
  subst l6 y6 z6
  obtain ⟨rfl, N6q, eh6⟩ := hQ6
  have N6 := Fr.app N3 N6q
  refine Good.back st6 ?_
  show Good p e below _ (T6.setTop (mkF m 48 #[.val (.ref r0), .val (.ref r1), .val (.int (0 : Int32)), .val (.int (1 : Int32)), .val .null, .val (.ref ar_3)] [(.int (0 : Int32)), (.ref r0)]))
  have f_7 : Fld Z T3.heap r0 "java/lang/String" "coder" "B" (.int (0 : Int32)) := Fld.keep F_coder Kq3 nin0
  have f_8 : Exa Z T3.heap r0 "java/lang/String" := Exa.keep E0 Kq3
  obtain ⟨T9, h9, X9, e9, W9, st9⟩ := putFN X6 hx hZ hown (hw _ (List.mem_of_getElem? (i := 34) rfl)) Via.refl eh6 f_7 f_8 (Or.inr ⟨(hw _ (List.mem_of_getElem? (i := 9) rfl)), rfl, hnm⟩) (hw _ (List.mem_of_getElem? (i := 6) rfl)) (ty := .byte) (v' := (.int (0 : Int32))) (by decide) rfl (by decide) (g := (mkF m 48 #[.val (.ref r0), .val (.ref r1), .val (.int (0 : Int32)), .val (.int (1 : Int32)), .val .null, .val (.ref ar_3)] [(.int (0 : Int32)), (.ref r0)])) rfl rfl (hb hby own_d2_48)
  refine Good.back st9 ?_
  have f_10 : Fld Z h9 r0 "java/lang/String" "coder" "B" (.int (0 : Int32)) := Fld.same W9 f_7
  have N9 := Fr.snoc X9 N6 g0
  have Z11 : n0 ≤ h9.size := Nat.le_trans Z4 (Keep.of_wr W9).1
  have K12 : Keep h0 h9 [r0] := K5.wr W9 (Or.inl (List.mem_of_getElem? (i := 0) rfl))
  show Good p e below _ (T9.setTop (mkF m 51 #[.val (.ref r0), .val (.ref r1), .val (.int (0 : Int32)), .val (.int (1 : Int32)), .val .null, .val (.ref ar_3)] []))
  refine Good.back (fun _ k => XS.aloadN X9.here hx rfl (hb hby own_d2_51) rfl rfl k) ?_
  show Good p e below _ (T9.setTop (mkF m 52 #[.val (.ref r0), .val (.ref r1), .val (.int (0 : Int32)), .val (.int (1 : Int32)), .val .null, .val (.ref ar_3)] [(.ref r0)]))
  refine Good.back (fun _ k => XS.aload X9.here hx rfl (hb hby own_d2_52) rfl rfl k) ?_
  show Good p e below _ (T9.setTop (mkF m 54 #[.val (.ref r0), .val (.ref r1), .val (.int (0 : Int32)), .val (.int (1 : Int32)), .val .null, .val (.ref ar_3)] [(.ref ar_3), (.ref r0)]))
  have f_13 : Fld Z T3.heap r0 "java/lang/String" "value" "[B" .null := Fld.keep F_value Kq3 nin0
  have f_14 : Fld Z h9 r0 "java/lang/String" "value" "[B" .null := Fld.other W9 f_13 (Or.inr (slot_ne (Or.inr (hw _ (List.mem_of_getElem? (i := 8) rfl))) (Or.inr (hw _ (List.mem_of_getElem? (i := 9) rfl))) (by decide) (t := (.array .byte)) (t' := .byte) (by decide) (by decide)))
  have f_15 : Exa Z h9 r0 "java/lang/String" := Exa.wr W9 f_8
  obtain ⟨T16, h16, X16, e16, W16, st16⟩ := putF X9 hx hZ hown (host := "") (Or.inl (hw _ (List.mem_of_getElem? (i := 35) rfl))) Via.refl e9 f_14 f_15 (Or.inr ⟨(hw _ (List.mem_of_getElem? (i := 8) rfl)), rfl, hnm⟩) (hw _ (List.mem_of_getElem? (i := 6) rfl)) (ty := (.array .byte)) (by decide) rfl rfl (g := (mkF m 54 #[.val (.ref r0), .val (.ref r1), .val (.int (0 : Int32)), .val (.int (1 : Int32)), .val .null, .val (.ref ar_3)] [(.ref ar_3), (.ref r0)])) rfl rfl (hb hby own_d2_54)
  refine Good.back st16 ?_
  have f_17 : Fld Z h16 r0 "java/lang/String" "value" "[B" (.ref ar_3) := Fld.same W16 f_14
  have N16 := Fr.snoc X16 N9 g0
  have Z18 : n0 ≤ h16.size := Nat.le_trans Z11 (Keep.of_wr W16).1
  have K19 : Keep h0 h16 [r0] := K12.wr W16 (Or.inl (List.mem_of_getElem? (i := 0) rfl))
  show Good p e below _ (T16.setTop (mkF m 57 #[.val (.ref r0), .val (.ref r1), .val (.int (0 : Int32)), .val (.int (1 : Int32)), .val .null, .val (.ref ar_3)] []))
  obtain ⟨fs20, hr20, hrun20, hended20, hW20, hsame20⟩ := X16.leave (v := none) (fun _ => rfl)
  refine Good.done (X16.returnOut hx Bd.returns (hb hby own_d2_57) hr20) hrun20 hended20 ⟨_, _, rfl, ?_, ⟨_, rfl⟩, hW20, hsame20.mono (by decide) (by decide)⟩
  show Q2n1 Z r0 r1 cs kc c0 h0 n0 _ T16.heap _
  rw [e16]
  have f_21 : Fld Z h16 r0 "java/lang/String" "coder" "B" (.int (0 : Int32)) := Fld.other W16 f_10 (Or.inr (slot_ne (Or.inr (hw _ (List.mem_of_getElem? (i := 9) rfl))) (Or.inr (hw _ (List.mem_of_getElem? (i := 8) rfl))) (by decide) (t := .byte) (t' := (.array .byte)) (by decide) (by decide)))
  have ne_r0_ar_3_23 : r0 ≠ ar_3 := Nat.ne_of_lt (Nat.lt_of_lt_of_le F_coder.lt o3_0)
  have f_22 : Arv Z h9 ar_3 kb_3 .byte (1 : Int32) [(.int (c0.toInt8.toInt32).toInt8.toInt32)] (.int (0 : Int32)) := Arv.other o3_1 W9 (Ne.symm ne_r0_ar_3_23)
  have f_24 : Arv Z h16 ar_3 kb_3 .byte (1 : Int32) [(.int (c0.toInt8.toInt32).toInt8.toInt32)] (.int (0 : Int32)) := Arv.other f_22 W16 (Ne.symm ne_r0_ar_3_23)
  have f_25 : Exa Z h9 ar_3 "[B" := Exa.wr W9 o3_2
  have f_26 : Exa Z h16 ar_3 "[B" := Exa.wr W16 f_25
  exact ⟨_, _, rfl, N16, K19, sz_ar_3, f_17, f_21, f_24, f_26⟩
theorem own_pd69 : parseMethodDescriptor "([CIILjava/lang/Void;)V" = some ⟨[(.array .char), .int, .int, (.object "java/lang/Void")], none⟩ := by decide +kernel
theorem own_d1_0 : decode jdk_42_method_3_code 0 = .ok (.aload_n 0, 1) := by decide +kernel
theorem own_d1_1 : decode jdk_42_method_3_code 1 = .ok (.aload_n 1, 1) := by decide +kernel
theorem own_d1_2 : decode jdk_42_method_3_code 2 = .ok (.iconst 0, 1) := by decide +kernel
theorem own_d1_3 : decode jdk_42_method_3_code 3 = .ok (.aload_n 1, 1) := by decide +kernel
theorem own_d1_4 : decode jdk_42_method_3_code 4 = .ok (.arraylength, 1) := by decide +kernel
theorem own_d1_5 : decode jdk_42_method_3_code 5 = .ok (.aconst_null, 1) := by decide +kernel
theorem own_d1_6 : decode jdk_42_method_3_code 6 = .ok (.invokespecial 27, 3) := by decide +kernel
theorem own_d1_9 : decode jdk_42_method_3_code 9 = .ok (.return_, 1) := by decide +kernel
theorem own_ef_1n1 (m : MethodId) (x0 : Addr) (x1 : Addr) : entryFrame m #[(.ref x0), (.ref x1)] 2 = mkF m 0 #[.val (.ref x0), .val (.ref x1)] [] := by first | (simp [entryFrame, mkF, argsToLocals, Value.category]; done) | rfl
def Q1n1 (Z : State) (r0 : Addr) (r1 : Addr) (cs : Int32) (kc : ClassId) (c0 : Int32) (h0 : Heap) (n0 : Nat) (v : Option Value) (h : Heap) (L : List Loc) : Prop := ∃ (ar : Addr) (kb : ClassId), v = none ∧ Fr n0 L ∧ Keep h0 h [r0] ∧ h0.size ≤ ar ∧ Fld Z h r0 "java/lang/String" "value" "[B" (.ref ar) ∧ Fld Z h r0 "java/lang/String" "coder" "B" (.int (0 : Int32)) ∧ Arv Z h ar kb .byte (1 : Int32) [(.int (c0.toInt8.toInt32).toInt8.toInt32)] (.int (0 : Int32)) ∧ Exa Z h ar "[B"
set_option maxRecDepth 65536 in
set_option maxHeartbeats 40000000 in
theorem rm1n1 (l : Launch) (Z : State) (a0 : Array Value) (hw : ∀ d ∈ tables_1, d.before a0 Z = true) (ws : List Jvm.Cond) (r0 : Addr) (r1 : Addr) (cs : Int32) (kc : ClassId) (c0 : Int32) (h0 : Heap) (n0 : Nat) (Z0 : n0 ≤ h0.size) (S_cs : Sta Z h0 "java/lang/String" "COMPACT_STRINGS" "Z" (.int cs)) (hcs : ¬ (cs = (0 : Int32))) (E0 : Exa Z h0 r0 "java/lang/String") (g0 : n0 ≤ r0) (F_value : Fld Z h0 r0 "java/lang/String" "value" "[B" .null) (F_coder : Fld Z h0 r0 "java/lang/String" "coder" "B" (.int (0 : Int32))) (VC : Arv Z h0 r1 kc .char (1 : Int32) [(.int c0)] (.int (0 : Int32))) (hle0 : ¬ ((255 : Int32) < c0)) :
    MetFree l (⟨"java/lang/String", "<init>", "([C)V"⟩ : MethodName) (head1 (Jvm.Cond.code (⟨"java/lang/String", "<init>", "([C)V"⟩ : MethodName) jdk_42_method_3_code 2 none :: ws) ({ frames := 3, cells := 1, slots := 1, locals := 52 } : Room)) (fun a U => a = #[(.ref r0), (.ref r1)] ∧ Z.Warmed39 U.vm ∧ U.heap = h0) (fun _ _ _ _ _ => True) (fun _ U o U' => ∃ v L, o = .returned v ∧ Q1n1 Z r0 r1 cs kc c0 h0 n0 v U'.heap L ∧ FrameEnd U o U' L ({ frames := 3, cells := 1, slots := 1, locals := 52 } : Room).cells ({ frames := 3, cells := 1, slots := 1, locals := 52 } : Room).slots) := by
  refine MetFree.of_bodySF (plainFor_of_name own_pn1) hisR ?_
  intro p e s m args below meth c s₁ Bd hml0 hP hK
  obtain ⟨rfl, hZ, hh⟩ := hP
  have hx := Bd.exec
  have hby := Bd.bytes
  have hml : c.maxLocals = 2 := hml0
  have hown : s.vm.findClass "java/lang/String" = some m.cls := findClass_of_methodNamed Bd.named
  have hnm := (name_of_methodNamed Bd.named Bd.method).1
  have X0 : Stand p l e ({ frames := 3, cells := 1, slots := 1, locals := 52 } : Room) s m #[(.ref r0), (.ref r1)] below meth c s₁ [] 0 0 := Stand.of_body Bd
  have e0 : s₁.heap = h0 := by rw [← hh, Bd.state]; rfl
  have N0 := Fr.nil n0
  have KR : Keep h0 h0 [r0] := Keep.refl h0 _
  show Good p e below (fun o U' => ∃ v L, o = .returned v ∧ Q1n1 Z r0 r1 cs kc c0 h0 n0 v U'.heap L ∧ FrameEnd s o U' L ({ frames := 3, cells := 1, slots := 1, locals := 52 } : Room).cells ({ frames := 3, cells := 1, slots := 1, locals := 52 } : Room).slots) _
  refine Good.back (S' := s₁.setTop (mkF m 0 #[.val (.ref r0), .val (.ref r1)] [])) (fun t k => castTop (own_ef_1n1 m r0 r1) k) ?_
  show Good p e below _ (s₁.setTop (mkF m 0 #[.val (.ref r0), .val (.ref r1)] []))
  refine Good.back (fun _ k => XS.aloadN X0.here hx rfl (hb hby own_d1_0) rfl rfl k) ?_
  show Good p e below _ (s₁.setTop (mkF m 1 #[.val (.ref r0), .val (.ref r1)] [(.ref r0)]))
  refine Good.back (fun _ k => XS.aloadN X0.here hx rfl (hb hby own_d1_1) rfl rfl k) ?_
  show Good p e below _ (s₁.setTop (mkF m 2 #[.val (.ref r0), .val (.ref r1)] [(.ref r1), (.ref r0)]))
  refine Good.back (fun _ k => XS.iconst X0.here hx rfl (hb hby own_d1_2) k) ?_
  show Good p e below _ (s₁.setTop (mkF m 3 #[.val (.ref r0), .val (.ref r1)] [(.int (0 : Int32)), (.ref r1), (.ref r0)]))
  refine Good.back (fun _ k => XS.aloadN X0.here hx rfl (hb hby own_d1_3) rfl rfl k) ?_
  show Good p e below _ (s₁.setTop (mkF m 4 #[.val (.ref r0), .val (.ref r1)] [(.ref r1), (.int (0 : Int32)), (.ref r1), (.ref r0)]))
  have fc1 := VC
  obtain ⟨cl1, Ar1, qk1, S1, N1', H1, G1⟩ := fc1
  refine Good.back (X0.arraylength hx (by rw [e0]; exact Ar1.1) (State.isArrayOf_alike hZ.alike Ar1.2.1) (g := (mkF m 4 #[.val (.ref r0), .val (.ref r1)] [(.ref r1), (.int (0 : Int32)), (.ref r1), (.ref r0)])) rfl rfl (hb hby own_d1_4)) ?_
  rw [len_of S1 N1']
  show Good p e below _ (s₁.setTop (mkF m 5 #[.val (.ref r0), .val (.ref r1)] [(.int (1 : Int32)), (.int (0 : Int32)), (.ref r1), (.ref r0)]))
  refine Good.back (fun _ k => XS.aconstNull X0.here hx rfl (hb hby own_d1_5) k) ?_
  show Good p e below _ (s₁.setTop (mkF m 6 #[.val (.ref r0), .val (.ref r1)] [.null, (.int (1 : Int32)), (.int (0 : Int32)), (.ref r1), (.ref r0)]))
  obtain ⟨_, _, ⟨T2, L2, k2, n2⟩, -, X2, ⟨Lc2, hQ2, l2, y2, z2⟩, st2⟩ := X0.specialBack hx (y := (⟨"java/lang/String", "<init>", "([CIILjava/lang/Void;)V"⟩ : MethodName)) rfl hown (mvT hZ (hw _ (List.mem_of_getElem? (i := 16) rfl))) (mvT hZ (hw _ (List.mem_of_getElem? (i := 17) rfl))) (mvT hZ (hw _ (List.mem_of_getElem? (i := 19) rfl))) (by decide) (backOf (W := 0) (rm2n1 l Z a0 hw [] r0 r1 cs kc c0 h0 n0 Z0 S_cs (by first | assumption | decide) E0 g0 F_value F_coder VC (by first | assumption | decide)) hZ (hw _ (List.mem_of_getElem? (i := 19) rfl)) (hw _ (List.mem_of_getElem? (i := 5) rfl)) (by decide) (by decide)) (g := (mkF m 6 #[.val (.ref r0), .val (.ref r1)] [.null, (.int (1 : Int32)), (.int (0 : Int32)), (.ref r1), (.ref r0)])) rfl (by rw [hml]; rfl) (Steps.refl _) (a := r0) (argsL := [(.ref r1), (.int (0 : Int32)), (.int (1 : Int32)), .null]) (rest := []) (lenOf own_pd69 rfl) rfl (by show 2 * 0 + _ ≤ _; exact Nat.le_of_eq rfl) (hb hby own_d1_6) (fun _ _ => ⟨rfl, e0, (by decide : 0 + 1 ≤ _), (by decide : 0 + 1 ≤ _)⟩)
  dsimp only [Pt.U, Pt.locs, Pt.cells, Pt.slots] at X2 l2 y2 z2 st2 hQ2
  subst l2 y2 z2
  obtain ⟨ar_2, kb_2, rfl, N2q, Kq2, o2_0, o2_1, o2_2, o2_3, o2_4⟩ := hQ2
  have N2 := Fr.app N0 N2q
  have Z3 : n0 ≤ T2.heap.size := Nat.le_trans Z0 Kq2.1
  have K4 : Keep h0 T2.heap [r0] := KR.trans Kq2 (allS (Or.inl (List.mem_of_getElem? (i := 0) rfl)) all0)
  have g_ar_2 : n0 ≤ ar_2 := Nat.le_trans Z0 o2_0
  have sz_ar_2 : h0.size ≤ ar_2 := Nat.le_trans KR.1 o2_0
  refine Good.back (fun _ k => st2.trans k) ?_
  show Good p e below _ (T2.setTop (mkF m 9 #[.val (.ref r0), .val (.ref r1)] []))
  obtain ⟨fs5, hr5, hrun5, hended5, hW5, hsame5⟩ := X2.leave (v := none) (fun _ => rfl)
  refine Good.done (X2.returnOut hx Bd.returns (hb hby own_d1_9) hr5) hrun5 hended5 ⟨_, _, rfl, ?_, ⟨_, rfl⟩, hW5, hsame5.mono (by decide) (by decide)⟩
  show Q1n1 Z r0 r1 cs kc c0 h0 n0 _ T2.heap _
  exact ⟨_, _, rfl, N2, K4, sz_ar_2, o2_1, o2_2, o2_3, o2_4⟩
theorem own_ef_5n2 (m : MethodId) (x0 : Addr) (x1 : Int32) (x2 : Addr) (x3 : Int32) (x4 : Int32) : entryFrame m #[(.ref x0), (.int x1), (.ref x2), (.int x3), (.int x4)] 7 = mkF m 0 #[.val (.ref x0), .val (.int x1), .val (.ref x2), .val (.int x3), .val (.int x4), .unset, .unset] [] := by first | (simp [entryFrame, mkF, argsToLocals, Value.category]; done) | rfl
def Q5n2 (Z : State) (r0 : Addr) (r2 : Addr) (kc : ClassId) (c0 : Int32) (c1 : Int32) (kb : ClassId) (h0 : Heap) (n0 : Nat) (v : Option Value) (h : Heap) (L : List Loc) : Prop := v = some (.int (2 : Int32)) ∧ Fr n0 L ∧ Keep h0 h [r2] ∧ Arv Z h r2 kb .byte (2 : Int32) [(.int (c0.toInt8.toInt32).toInt8.toInt32), (.int (c1.toInt8.toInt32).toInt8.toInt32)] (.int (0 : Int32))
set_option maxRecDepth 65536 in
set_option maxHeartbeats 40000000 in
theorem rm5n2 (l : Launch) (Z : State) (a0 : Array Value) (hw : ∀ d ∈ tables_1, d.before a0 Z = true) (ws : List Jvm.Cond) (r0 : Addr) (r2 : Addr) (kc : ClassId) (c0 : Int32) (c1 : Int32) (kb : ClassId) (h0 : Heap) (n0 : Nat) (Z0 : n0 ≤ h0.size) (VC : Arv Z h0 r0 kc .char (2 : Int32) [(.int c0), (.int c1)] (.int (0 : Int32))) (VB : Arv Z h0 r2 kb .byte (2 : Int32) [(.int (0 : Int32)), (.int (0 : Int32))] (.int (0 : Int32))) (g2 : n0 ≤ r2) (hne : r0 ≠ r2) (hle0 : ¬ ((255 : Int32) < c0)) (hle1 : ¬ ((255 : Int32) < c1)) :
    MetFree l (⟨"java/lang/StringUTF16", "compress", "([CI[BII)I"⟩ : MethodName) (head1 (Jvm.Cond.code (⟨"java/lang/StringUTF16", "compress", "([CI[BII)I"⟩ : MethodName) jdk_52_method_21_code 7 (some .int) :: ws) ({ frames := 0, cells := 0, slots := 0, locals := 0 } : Room)) (fun a U => a = #[(.ref r0), (.int (0 : Int32)), (.ref r2), (.int (0 : Int32)), (.int (2 : Int32))] ∧ Z.Warmed39 U.vm ∧ U.heap = h0) (fun _ _ _ _ _ => True) (fun _ U o U' => ∃ v L, o = .returned v ∧ Q5n2 Z r0 r2 kc c0 c1 kb h0 n0 v U'.heap L ∧ FrameEnd U o U' L ({ frames := 0, cells := 0, slots := 0, locals := 0 } : Room).cells ({ frames := 0, cells := 0, slots := 0, locals := 0 } : Room).slots) := by
  refine MetFree.of_bodySF (plainFor_of_name own_pn0) hisR ?_
  intro p e s m args below meth c s₁ Bd hml0 hP hK
  obtain ⟨rfl, hZ, hh⟩ := hP
  have hx := Bd.exec
  have hby := Bd.bytes
  have hml : c.maxLocals = 7 := hml0
  have hown : s.vm.findClass "java/lang/StringUTF16" = some m.cls := findClass_of_methodNamed Bd.named
  have hnm := (name_of_methodNamed Bd.named Bd.method).1
  have X0 : Stand p l e ({ frames := 0, cells := 0, slots := 0, locals := 0 } : Room) s m #[(.ref r0), (.int (0 : Int32)), (.ref r2), (.int (0 : Int32)), (.int (2 : Int32))] below meth c s₁ [] 0 0 := Stand.of_body Bd
  have e0 : s₁.heap = h0 := by rw [← hh, Bd.state]; rfl
  have N0 := Fr.nil n0
  have KR : Keep h0 h0 [r2] := Keep.refl h0 _
  show Good p e below (fun o U' => ∃ v L, o = .returned v ∧ Q5n2 Z r0 r2 kc c0 c1 kb h0 n0 v U'.heap L ∧ FrameEnd s o U' L ({ frames := 0, cells := 0, slots := 0, locals := 0 } : Room).cells ({ frames := 0, cells := 0, slots := 0, locals := 0 } : Room).slots) _
  refine Good.back (S' := s₁.setTop (mkF m 0 #[.val (.ref r0), .val (.int (0 : Int32)), .val (.ref r2), .val (.int (0 : Int32)), .val (.int (2 : Int32)), .unset, .unset] [])) (fun t k => castTop (own_ef_5n2 m r0 (0 : Int32) r2 (0 : Int32) (2 : Int32)) k) ?_
  show Good p e below _ (s₁.setTop (mkF m 0 #[.val (.ref r0), .val (.int (0 : Int32)), .val (.ref r2), .val (.int (0 : Int32)), .val (.int (2 : Int32)), .unset, .unset] []))
  refine Good.back (fun _ k => XS.iconst X0.here hx rfl (hb hby own_d5_0) k) ?_
  show Good p e below _ (s₁.setTop (mkF m 1 #[.val (.ref r0), .val (.int (0 : Int32)), .val (.ref r2), .val (.int (0 : Int32)), .val (.int (2 : Int32)), .unset, .unset] [(.int (0 : Int32))]))
  refine Good.back (fun _ k => XS.istore X0.here hx rfl (hb hby own_d5_1) rfl (l' := #[.val (.ref r0), .val (.int (0 : Int32)), .val (.ref r2), .val (.int (0 : Int32)), .val (.int (2 : Int32)), .val (.int (0 : Int32)), .unset]) rfl k) ?_
  show Good p e below _ (s₁.setTop (mkF m 3 #[.val (.ref r0), .val (.int (0 : Int32)), .val (.ref r2), .val (.int (0 : Int32)), .val (.int (2 : Int32)), .val (.int (0 : Int32)), .unset] []))
  refine Good.back (fun _ k => XS.iload X0.here hx rfl (hb hby own_d5_3) rfl k) ?_
  show Good p e below _ (s₁.setTop (mkF m 5 #[.val (.ref r0), .val (.int (0 : Int32)), .val (.ref r2), .val (.int (0 : Int32)), .val (.int (2 : Int32)), .val (.int (0 : Int32)), .unset] [(.int (0 : Int32))]))
  refine Good.back (fun _ k => XS.iload X0.here hx rfl (hb hby own_d5_5) rfl k) ?_
  show Good p e below _ (s₁.setTop (mkF m 7 #[.val (.ref r0), .val (.int (0 : Int32)), .val (.ref r2), .val (.int (0 : Int32)), .val (.int (2 : Int32)), .val (.int (0 : Int32)), .unset] [(.int (2 : Int32)), (.int (0 : Int32))]))
  refine Good.back (fun _ k => XS.icmpNo X0.here hx rfl (hb hby own_d5_7) rfl (tlt (by decide : ((0 : Int32) < (2 : Int32)))).2.1 k) ?_
  show Good p e below _ (s₁.setTop (mkF m 10 #[.val (.ref r0), .val (.int (0 : Int32)), .val (.ref r2), .val (.int (0 : Int32)), .val (.int (2 : Int32)), .val (.int (0 : Int32)), .unset] []))
  refine Good.back (fun _ k => XS.aloadN X0.here hx rfl (hb hby own_d5_10) rfl rfl k) ?_
  show Good p e below _ (s₁.setTop (mkF m 11 #[.val (.ref r0), .val (.int (0 : Int32)), .val (.ref r2), .val (.int (0 : Int32)), .val (.int (2 : Int32)), .val (.int (0 : Int32)), .unset] [(.ref r0)]))
  refine Good.back (fun _ k => XS.iloadN X0.here hx rfl (hb hby own_d5_11) rfl k) ?_
  show Good p e below _ (s₁.setTop (mkF m 12 #[.val (.ref r0), .val (.int (0 : Int32)), .val (.ref r2), .val (.int (0 : Int32)), .val (.int (2 : Int32)), .val (.int (0 : Int32)), .unset] [(.int (0 : Int32)), (.ref r0)]))
  have fc1 := VC
  obtain ⟨cl1, Ar1, qk1, S1, N1', H1, G1⟩ := fc1
  have hin1 : ¬ ((0 : Int32) < 0 ∨ cl1.slots.size ≤ ((0 : Int32)).toNatClampNeg) := inb_of S1 ⟨by decide, by decide⟩
  have hat1 : cl1.slots[((0 : Int32)).toNatClampNeg]? = some (.int c0) := Has.at H1 hin1 rfl
  refine Good.back (X0.caload hx (j := (0 : Int32)) (v := (.int c0)) (by rw [e0]; exact Ar1.1) (State.isArrayOf_alike hZ.alike Ar1.2.1) Ar1.2.2 hin1 hat1 (g := (mkF m 12 #[.val (.ref r0), .val (.int (0 : Int32)), .val (.ref r2), .val (.int (0 : Int32)), .val (.int (2 : Int32)), .val (.int (0 : Int32)), .unset] [(.int (0 : Int32)), (.ref r0)])) rfl rfl (hb hby own_d5_12)) ?_
  show Good p e below _ (s₁.setTop (mkF m 13 #[.val (.ref r0), .val (.int (0 : Int32)), .val (.ref r2), .val (.int (0 : Int32)), .val (.int (2 : Int32)), .val (.int (0 : Int32)), .unset] [(.int c0)]))
  refine Good.back (fun _ k => XS.istore X0.here hx rfl (hb hby own_d5_13) rfl (l' := #[.val (.ref r0), .val (.int (0 : Int32)), .val (.ref r2), .val (.int (0 : Int32)), .val (.int (2 : Int32)), .val (.int (0 : Int32)), .val (.int c0)]) rfl k) ?_
  show Good p e below _ (s₁.setTop (mkF m 15 #[.val (.ref r0), .val (.int (0 : Int32)), .val (.ref r2), .val (.int (0 : Int32)), .val (.int (2 : Int32)), .val (.int (0 : Int32)), .val (.int c0)] []))
  refine Good.back (fun _ k => XS.iload X0.here hx rfl (hb hby own_d5_15) rfl k) ?_
  show Good p e below _ (s₁.setTop (mkF m 17 #[.val (.ref r0), .val (.int (0 : Int32)), .val (.ref r2), .val (.int (0 : Int32)), .val (.int (2 : Int32)), .val (.int (0 : Int32)), .val (.int c0)] [(.int c0)]))
  refine Good.back (fun _ k => XS.sipush X0.here hx rfl (hb hby own_d5_17) k) ?_
  show Good p e below _ (s₁.setTop (mkF m 20 #[.val (.ref r0), .val (.int (0 : Int32)), .val (.ref r2), .val (.int (0 : Int32)), .val (.int (2 : Int32)), .val (.int (0 : Int32)), .val (.int c0)] [(.int (255 : Int32)), (.int c0)]))
  refine Good.back (fun _ k => XS.icmpYes X0.here hx rfl (pc0 := 20) (pc' := 26) rfl (hb hby own_d5_20) rfl (flt hle0).2.2.2 (by decide) (by decide) k) ?_
  show Good p e below _ (s₁.setTop (mkF m 26 #[.val (.ref r0), .val (.int (0 : Int32)), .val (.ref r2), .val (.int (0 : Int32)), .val (.int (2 : Int32)), .val (.int (0 : Int32)), .val (.int c0)] []))
  refine Good.back (fun _ k => XS.aloadN X0.here hx rfl (hb hby own_d5_26) rfl rfl k) ?_
  show Good p e below _ (s₁.setTop (mkF m 27 #[.val (.ref r0), .val (.int (0 : Int32)), .val (.ref r2), .val (.int (0 : Int32)), .val (.int (2 : Int32)), .val (.int (0 : Int32)), .val (.int c0)] [(.ref r2)]))
  refine Good.back (fun _ k => XS.iloadN X0.here hx rfl (hb hby own_d5_27) rfl k) ?_
  show Good p e below _ (s₁.setTop (mkF m 28 #[.val (.ref r0), .val (.int (0 : Int32)), .val (.ref r2), .val (.int (0 : Int32)), .val (.int (2 : Int32)), .val (.int (0 : Int32)), .val (.int c0)] [(.int (0 : Int32)), (.ref r2)]))
  refine Good.back (fun _ k => XS.iload X0.here hx rfl (hb hby own_d5_28) rfl k) ?_
  show Good p e below _ (s₁.setTop (mkF m 30 #[.val (.ref r0), .val (.int (0 : Int32)), .val (.ref r2), .val (.int (0 : Int32)), .val (.int (2 : Int32)), .val (.int (0 : Int32)), .val (.int c0)] [(.int c0), (.int (0 : Int32)), (.ref r2)]))
  refine Good.back (fun _ k => XS.i2b X0.here hx rfl (hb hby own_d5_30) rfl k) ?_
  show Good p e below _ (s₁.setTop (mkF m 31 #[.val (.ref r0), .val (.int (0 : Int32)), .val (.ref r2), .val (.int (0 : Int32)), .val (.int (2 : Int32)), .val (.int (0 : Int32)), .val (.int c0)] [(.int (c0.toInt8.toInt32)), (.int (0 : Int32)), (.ref r2)]))
  have fc2 := VB
  obtain ⟨cl2, Ar2, qk2, S2, N2', H2, G2⟩ := fc2
  have hin2 : ¬ ((0 : Int32) < 0 ∨ cl2.slots.size ≤ ((0 : Int32)).toNatClampNeg) := inb_of S2 ⟨by decide, by decide⟩
  obtain ⟨T2, h2, X2, e2, W2, st2⟩ := stB X0 hx hZ e0 Ar2 (j := (0 : Int32)) hin2 (g := (mkF m 31 #[.val (.ref r0), .val (.int (0 : Int32)), .val (.ref r2), .val (.int (0 : Int32)), .val (.int (2 : Int32)), .val (.int (0 : Int32)), .val (.int c0)] [(.int (c0.toInt8.toInt32)), (.int (0 : Int32)), (.ref r2)])) rfl rfl (hb hby own_d5_31)
  refine Good.back st2 ?_
  have f_3 : Arv Z h2 r2 kb .byte (2 : Int32) [(.int (c0.toInt8.toInt32).toInt8.toInt32), (.int (0 : Int32))] (.int (0 : Int32)) := Arv.set Ar2 qk2 S2 N2' H2 G2 (fits_nar_byte _) W2 0 rfl (Nat.le_of_ble_eq_true rfl)
  have N2 := Fr.snoc X2 N0 g2
  have Z4 : n0 ≤ h2.size := Nat.le_trans Z0 (Keep.of_wr W2).1
  have K5 : Keep h0 h2 [r2] := KR.wr W2 (Or.inl (List.mem_of_getElem? (i := 0) rfl))
  show Good p e below _ (T2.setTop (mkF m 32 #[.val (.ref r0), .val (.int (0 : Int32)), .val (.ref r2), .val (.int (0 : Int32)), .val (.int (2 : Int32)), .val (.int (0 : Int32)), .val (.int c0)] []))
  refine Good.back (fun _ k => XS.iinc X2.here hx rfl (hb hby own_d5_32) rfl (l' := #[.val (.ref r0), .val (.int ((0 : Int32) + (1 : Int32))), .val (.ref r2), .val (.int (0 : Int32)), .val (.int (2 : Int32)), .val (.int (0 : Int32)), .val (.int c0)]) rfl k) ?_
  show Good p e below _ (T2.setTop (mkF m 35 #[.val (.ref r0), .val (.int ((0 : Int32) + (1 : Int32))), .val (.ref r2), .val (.int (0 : Int32)), .val (.int (2 : Int32)), .val (.int (0 : Int32)), .val (.int c0)] []))
  rw [show (((0 : Int32) + (1 : Int32)) : Int32) = (1 : Int32) from by decide]
  show Good p e below _ (T2.setTop (mkF m 35 #[.val (.ref r0), .val (.int (1 : Int32)), .val (.ref r2), .val (.int (0 : Int32)), .val (.int (2 : Int32)), .val (.int (0 : Int32)), .val (.int c0)] []))
  refine Good.back (fun _ k => XS.iinc X2.here hx rfl (hb hby own_d5_35) rfl (l' := #[.val (.ref r0), .val (.int (1 : Int32)), .val (.ref r2), .val (.int ((0 : Int32) + (1 : Int32))), .val (.int (2 : Int32)), .val (.int (0 : Int32)), .val (.int c0)]) rfl k) ?_
  show Good p e below _ (T2.setTop (mkF m 38 #[.val (.ref r0), .val (.int (1 : Int32)), .val (.ref r2), .val (.int ((0 : Int32) + (1 : Int32))), .val (.int (2 : Int32)), .val (.int (0 : Int32)), .val (.int c0)] []))
  rw [show (((0 : Int32) + (1 : Int32)) : Int32) = (1 : Int32) from by decide]
  show Good p e below _ (T2.setTop (mkF m 38 #[.val (.ref r0), .val (.int (1 : Int32)), .val (.ref r2), .val (.int (1 : Int32)), .val (.int (2 : Int32)), .val (.int (0 : Int32)), .val (.int c0)] []))
  refine Good.back (fun _ k => XS.iinc X2.here hx rfl (hb hby own_d5_38) rfl (l' := #[.val (.ref r0), .val (.int (1 : Int32)), .val (.ref r2), .val (.int (1 : Int32)), .val (.int (2 : Int32)), .val (.int ((0 : Int32) + (1 : Int32))), .val (.int c0)]) rfl k) ?_
  show Good p e below _ (T2.setTop (mkF m 41 #[.val (.ref r0), .val (.int (1 : Int32)), .val (.ref r2), .val (.int (1 : Int32)), .val (.int (2 : Int32)), .val (.int ((0 : Int32) + (1 : Int32))), .val (.int c0)] []))
  rw [show (((0 : Int32) + (1 : Int32)) : Int32) = (1 : Int32) from by decide]
  show Good p e below _ (T2.setTop (mkF m 41 #[.val (.ref r0), .val (.int (1 : Int32)), .val (.ref r2), .val (.int (1 : Int32)), .val (.int (2 : Int32)), .val (.int (1 : Int32)), .val (.int c0)] []))
  refine Good.back (fun _ k => XS.goto X2.here hx rfl (pc0 := 41) (pc' := 3) rfl (hb hby own_d5_41) (by decide) (by decide) k) ?_
  show Good p e below _ (T2.setTop (mkF m 3 #[.val (.ref r0), .val (.int (1 : Int32)), .val (.ref r2), .val (.int (1 : Int32)), .val (.int (2 : Int32)), .val (.int (1 : Int32)), .val (.int c0)] []))
  refine Good.back (fun _ k => XS.iload X2.here hx rfl (hb hby own_d5_3) rfl k) ?_
  show Good p e below _ (T2.setTop (mkF m 5 #[.val (.ref r0), .val (.int (1 : Int32)), .val (.ref r2), .val (.int (1 : Int32)), .val (.int (2 : Int32)), .val (.int (1 : Int32)), .val (.int c0)] [(.int (1 : Int32))]))
  refine Good.back (fun _ k => XS.iload X2.here hx rfl (hb hby own_d5_5) rfl k) ?_
  show Good p e below _ (T2.setTop (mkF m 7 #[.val (.ref r0), .val (.int (1 : Int32)), .val (.ref r2), .val (.int (1 : Int32)), .val (.int (2 : Int32)), .val (.int (1 : Int32)), .val (.int c0)] [(.int (2 : Int32)), (.int (1 : Int32))]))
  refine Good.back (fun _ k => XS.icmpNo X2.here hx rfl (hb hby own_d5_7) rfl (tlt (by decide : ((1 : Int32) < (2 : Int32)))).2.1 k) ?_
  show Good p e below _ (T2.setTop (mkF m 10 #[.val (.ref r0), .val (.int (1 : Int32)), .val (.ref r2), .val (.int (1 : Int32)), .val (.int (2 : Int32)), .val (.int (1 : Int32)), .val (.int c0)] []))
  refine Good.back (fun _ k => XS.aloadN X2.here hx rfl (hb hby own_d5_10) rfl rfl k) ?_
  show Good p e below _ (T2.setTop (mkF m 11 #[.val (.ref r0), .val (.int (1 : Int32)), .val (.ref r2), .val (.int (1 : Int32)), .val (.int (2 : Int32)), .val (.int (1 : Int32)), .val (.int c0)] [(.ref r0)]))
  refine Good.back (fun _ k => XS.iloadN X2.here hx rfl (hb hby own_d5_11) rfl k) ?_
  show Good p e below _ (T2.setTop (mkF m 12 #[.val (.ref r0), .val (.int (1 : Int32)), .val (.ref r2), .val (.int (1 : Int32)), .val (.int (2 : Int32)), .val (.int (1 : Int32)), .val (.int c0)] [(.int (1 : Int32)), (.ref r0)]))
  have f_6 : Arv Z h2 r0 kc .char (2 : Int32) [(.int c0), (.int c1)] (.int (0 : Int32)) := Arv.other VC W2 hne
  have fc7 := f_6
  obtain ⟨cl7, Ar7, qk7, S7, N7', H7, G7⟩ := fc7
  have hin7 : ¬ ((1 : Int32) < 0 ∨ cl7.slots.size ≤ ((1 : Int32)).toNatClampNeg) := inb_of S7 ⟨by decide, by decide⟩
  have hat7 : cl7.slots[((1 : Int32)).toNatClampNeg]? = some (.int c1) := Has.at H7 hin7 rfl
  refine Good.back (X2.caload hx (j := (1 : Int32)) (v := (.int c1)) (by rw [e2]; exact Ar7.1) (State.isArrayOf_alike hZ.alike Ar7.2.1) Ar7.2.2 hin7 hat7 (g := (mkF m 12 #[.val (.ref r0), .val (.int (1 : Int32)), .val (.ref r2), .val (.int (1 : Int32)), .val (.int (2 : Int32)), .val (.int (1 : Int32)), .val (.int c0)] [(.int (1 : Int32)), (.ref r0)])) rfl rfl (hb hby own_d5_12)) ?_
  show Good p e below _ (T2.setTop (mkF m 13 #[.val (.ref r0), .val (.int (1 : Int32)), .val (.ref r2), .val (.int (1 : Int32)), .val (.int (2 : Int32)), .val (.int (1 : Int32)), .val (.int c0)] [(.int c1)]))
  refine Good.back (fun _ k => XS.istore X2.here hx rfl (hb hby own_d5_13) rfl (l' := #[.val (.ref r0), .val (.int (1 : Int32)), .val (.ref r2), .val (.int (1 : Int32)), .val (.int (2 : Int32)), .val (.int (1 : Int32)), .val (.int c1)]) rfl k) ?_
  show Good p e below _ (T2.setTop (mkF m 15 #[.val (.ref r0), .val (.int (1 : Int32)), .val (.ref r2), .val (.int (1 : Int32)), .val (.int (2 : Int32)), .val (.int (1 : Int32)), .val (.int c1)] []))
  refine Good.back (fun _ k => XS.iload X2.here hx rfl (hb hby own_d5_15) rfl k) ?_
  show Good p e below _ (T2.setTop (mkF m 17 #[.val (.ref r0), .val (.int (1 : Int32)), .val (.ref r2), .val (.int (1 : Int32)), .val (.int (2 : Int32)), .val (.int (1 : Int32)), .val (.int c1)] [(.int c1)]))
  refine Good.back (fun _ k => XS.sipush X2.here hx rfl (hb hby own_d5_17) k) ?_
  show Good p e below _ (T2.setTop (mkF m 20 #[.val (.ref r0), .val (.int (1 : Int32)), .val (.ref r2), .val (.int (1 : Int32)), .val (.int (2 : Int32)), .val (.int (1 : Int32)), .val (.int c1)] [(.int (255 : Int32)), (.int c1)]))
  refine Good.back (fun _ k => XS.icmpYes X2.here hx rfl (pc0 := 20) (pc' := 26) rfl (hb hby own_d5_20) rfl (flt hle1).2.2.2 (by decide) (by decide) k) ?_
  show Good p e below _ (T2.setTop (mkF m 26 #[.val (.ref r0), .val (.int (1 : Int32)), .val (.ref r2), .val (.int (1 : Int32)), .val (.int (2 : Int32)), .val (.int (1 : Int32)), .val (.int c1)] []))
  refine Good.back (fun _ k => XS.aloadN X2.here hx rfl (hb hby own_d5_26) rfl rfl k) ?_
  show Good p e below _ (T2.setTop (mkF m 27 #[.val (.ref r0), .val (.int (1 : Int32)), .val (.ref r2), .val (.int (1 : Int32)), .val (.int (2 : Int32)), .val (.int (1 : Int32)), .val (.int c1)] [(.ref r2)]))
  refine Good.back (fun _ k => XS.iloadN X2.here hx rfl (hb hby own_d5_27) rfl k) ?_
  show Good p e below _ (T2.setTop (mkF m 28 #[.val (.ref r0), .val (.int (1 : Int32)), .val (.ref r2), .val (.int (1 : Int32)), .val (.int (2 : Int32)), .val (.int (1 : Int32)), .val (.int c1)] [(.int (1 : Int32)), (.ref r2)]))
  refine Good.back (fun _ k => XS.iload X2.here hx rfl (hb hby own_d5_28) rfl k) ?_
  show Good p e below _ (T2.setTop (mkF m 30 #[.val (.ref r0), .val (.int (1 : Int32)), .val (.ref r2), .val (.int (1 : Int32)), .val (.int (2 : Int32)), .val (.int (1 : Int32)), .val (.int c1)] [(.int c1), (.int (1 : Int32)), (.ref r2)]))
  refine Good.back (fun _ k => XS.i2b X2.here hx rfl (hb hby own_d5_30) rfl k) ?_
  show Good p e below _ (T2.setTop (mkF m 31 #[.val (.ref r0), .val (.int (1 : Int32)), .val (.ref r2), .val (.int (1 : Int32)), .val (.int (2 : Int32)), .val (.int (1 : Int32)), .val (.int c1)] [(.int (c1.toInt8.toInt32)), (.int (1 : Int32)), (.ref r2)]))
  have fc8 := f_3
  obtain ⟨cl8, Ar8, qk8, S8, N8', H8, G8⟩ := fc8
  have hin8 : ¬ ((1 : Int32) < 0 ∨ cl8.slots.size ≤ ((1 : Int32)).toNatClampNeg) := inb_of S8 ⟨by decide, by decide⟩
  obtain ⟨T8, h8, X8, e8, W8, st8⟩ := stB X2 hx hZ e2 Ar8 (j := (1 : Int32)) hin8 (g := (mkF m 31 #[.val (.ref r0), .val (.int (1 : Int32)), .val (.ref r2), .val (.int (1 : Int32)), .val (.int (2 : Int32)), .val (.int (1 : Int32)), .val (.int c1)] [(.int (c1.toInt8.toInt32)), (.int (1 : Int32)), (.ref r2)])) rfl rfl (hb hby own_d5_31)
  refine Good.back st8 ?_
  have f_9 : Arv Z h8 r2 kb .byte (2 : Int32) [(.int (c0.toInt8.toInt32).toInt8.toInt32), (.int (c1.toInt8.toInt32).toInt8.toInt32)] (.int (0 : Int32)) := Arv.set Ar8 qk8 S8 N8' H8 G8 (fits_nar_byte _) W8 1 rfl (Nat.le_of_ble_eq_true rfl)
  have N8 := Fr.snoc X8 N2 g2
  have Z10 : n0 ≤ h8.size := Nat.le_trans Z4 (Keep.of_wr W8).1
  have K11 : Keep h0 h8 [r2] := K5.wr W8 (Or.inl (List.mem_of_getElem? (i := 0) rfl))
  show Good p e below _ (T8.setTop (mkF m 32 #[.val (.ref r0), .val (.int (1 : Int32)), .val (.ref r2), .val (.int (1 : Int32)), .val (.int (2 : Int32)), .val (.int (1 : Int32)), .val (.int c1)] []))
  refine Good.back (fun _ k => XS.iinc X8.here hx rfl (hb hby own_d5_32) rfl (l' := #[.val (.ref r0), .val (.int ((1 : Int32) + (1 : Int32))), .val (.ref r2), .val (.int (1 : Int32)), .val (.int (2 : Int32)), .val (.int (1 : Int32)), .val (.int c1)]) rfl k) ?_
  show Good p e below _ (T8.setTop (mkF m 35 #[.val (.ref r0), .val (.int ((1 : Int32) + (1 : Int32))), .val (.ref r2), .val (.int (1 : Int32)), .val (.int (2 : Int32)), .val (.int (1 : Int32)), .val (.int c1)] []))
  rw [show (((1 : Int32) + (1 : Int32)) : Int32) = (2 : Int32) from by decide]
  show Good p e below _ (T8.setTop (mkF m 35 #[.val (.ref r0), .val (.int (2 : Int32)), .val (.ref r2), .val (.int (1 : Int32)), .val (.int (2 : Int32)), .val (.int (1 : Int32)), .val (.int c1)] []))
  refine Good.back (fun _ k => XS.iinc X8.here hx rfl (hb hby own_d5_35) rfl (l' := #[.val (.ref r0), .val (.int (2 : Int32)), .val (.ref r2), .val (.int ((1 : Int32) + (1 : Int32))), .val (.int (2 : Int32)), .val (.int (1 : Int32)), .val (.int c1)]) rfl k) ?_
  show Good p e below _ (T8.setTop (mkF m 38 #[.val (.ref r0), .val (.int (2 : Int32)), .val (.ref r2), .val (.int ((1 : Int32) + (1 : Int32))), .val (.int (2 : Int32)), .val (.int (1 : Int32)), .val (.int c1)] []))
  rw [show (((1 : Int32) + (1 : Int32)) : Int32) = (2 : Int32) from by decide]
  show Good p e below _ (T8.setTop (mkF m 38 #[.val (.ref r0), .val (.int (2 : Int32)), .val (.ref r2), .val (.int (2 : Int32)), .val (.int (2 : Int32)), .val (.int (1 : Int32)), .val (.int c1)] []))
  refine Good.back (fun _ k => XS.iinc X8.here hx rfl (hb hby own_d5_38) rfl (l' := #[.val (.ref r0), .val (.int (2 : Int32)), .val (.ref r2), .val (.int (2 : Int32)), .val (.int (2 : Int32)), .val (.int ((1 : Int32) + (1 : Int32))), .val (.int c1)]) rfl k) ?_
  show Good p e below _ (T8.setTop (mkF m 41 #[.val (.ref r0), .val (.int (2 : Int32)), .val (.ref r2), .val (.int (2 : Int32)), .val (.int (2 : Int32)), .val (.int ((1 : Int32) + (1 : Int32))), .val (.int c1)] []))
  rw [show (((1 : Int32) + (1 : Int32)) : Int32) = (2 : Int32) from by decide]
  show Good p e below _ (T8.setTop (mkF m 41 #[.val (.ref r0), .val (.int (2 : Int32)), .val (.ref r2), .val (.int (2 : Int32)), .val (.int (2 : Int32)), .val (.int (2 : Int32)), .val (.int c1)] []))
  refine Good.back (fun _ k => XS.goto X8.here hx rfl (pc0 := 41) (pc' := 3) rfl (hb hby own_d5_41) (by decide) (by decide) k) ?_
  show Good p e below _ (T8.setTop (mkF m 3 #[.val (.ref r0), .val (.int (2 : Int32)), .val (.ref r2), .val (.int (2 : Int32)), .val (.int (2 : Int32)), .val (.int (2 : Int32)), .val (.int c1)] []))
  refine Good.back (fun _ k => XS.iload X8.here hx rfl (hb hby own_d5_3) rfl k) ?_
  show Good p e below _ (T8.setTop (mkF m 5 #[.val (.ref r0), .val (.int (2 : Int32)), .val (.ref r2), .val (.int (2 : Int32)), .val (.int (2 : Int32)), .val (.int (2 : Int32)), .val (.int c1)] [(.int (2 : Int32))]))
  refine Good.back (fun _ k => XS.iload X8.here hx rfl (hb hby own_d5_5) rfl k) ?_
  show Good p e below _ (T8.setTop (mkF m 7 #[.val (.ref r0), .val (.int (2 : Int32)), .val (.ref r2), .val (.int (2 : Int32)), .val (.int (2 : Int32)), .val (.int (2 : Int32)), .val (.int c1)] [(.int (2 : Int32)), (.int (2 : Int32))]))
  refine Good.back (fun _ k => XS.icmpYes X8.here hx rfl (pc0 := 7) (pc' := 44) rfl (hb hby own_d5_7) rfl (flt (by decide : ¬ ((2 : Int32) < (2 : Int32)))).2.1 (by decide) (by decide) k) ?_
  show Good p e below _ (T8.setTop (mkF m 44 #[.val (.ref r0), .val (.int (2 : Int32)), .val (.ref r2), .val (.int (2 : Int32)), .val (.int (2 : Int32)), .val (.int (2 : Int32)), .val (.int c1)] []))
  refine Good.back (fun _ k => XS.iload X8.here hx rfl (hb hby own_d5_44) rfl k) ?_
  show Good p e below _ (T8.setTop (mkF m 46 #[.val (.ref r0), .val (.int (2 : Int32)), .val (.ref r2), .val (.int (2 : Int32)), .val (.int (2 : Int32)), .val (.int (2 : Int32)), .val (.int c1)] [(.int (2 : Int32))]))
  obtain ⟨fs12, hr12, hrun12, hended12, hW12, hsame12⟩ := X8.leave (v := some (.int (2 : Int32))) (fun h => by rw [Bd.returns] at h; cases h)
  refine Good.done (retI X8 hx Bd.returns (hb hby own_d5_46) hr12) hrun12 hended12 ⟨_, _, rfl, ?_, ⟨_, rfl⟩, hW12, hsame12.mono (by decide) (by decide)⟩
  show Q5n2 Z r0 r2 kc c0 c1 kb h0 n0 _ T8.heap _
  rw [e8]
  exact ⟨rfl, N8, K11, f_9⟩
theorem own_ef_4n2 (m : MethodId) (x0 : Addr) (x1 : Int32) (x2 : Int32) : entryFrame m #[(.ref x0), (.int x1), (.int x2)] 6 = mkF m 0 #[.val (.ref x0), .val (.int x1), .val (.int x2), .unset, .unset, .unset] [] := by first | (simp [entryFrame, mkF, argsToLocals, Value.category]; done) | rfl
def Q4n2 (Z : State) (r0 : Addr) (kc : ClassId) (c0 : Int32) (c1 : Int32) (h0 : Heap) (n0 : Nat) (v : Option Value) (h : Heap) (L : List Loc) : Prop := ∃ (ar : Addr) (kb : ClassId), v = some (.ref ar) ∧ Fr n0 L ∧ Keep h0 h [] ∧ h0.size ≤ ar ∧ Arv Z h ar kb .byte (2 : Int32) [(.int (c0.toInt8.toInt32).toInt8.toInt32), (.int (c1.toInt8.toInt32).toInt8.toInt32)] (.int (0 : Int32)) ∧ Exa Z h ar "[B"
set_option maxRecDepth 65536 in
set_option maxHeartbeats 40000000 in
theorem rm4n2 (l : Launch) (Z : State) (a0 : Array Value) (hw : ∀ d ∈ tables_1, d.before a0 Z = true) (ws : List Jvm.Cond) (r0 : Addr) (kc : ClassId) (c0 : Int32) (c1 : Int32) (h0 : Heap) (n0 : Nat) (Z0 : n0 ≤ h0.size) (VC : Arv Z h0 r0 kc .char (2 : Int32) [(.int c0), (.int c1)] (.int (0 : Int32))) (hle0 : ¬ ((255 : Int32) < c0)) (hle1 : ¬ ((255 : Int32) < c1)) :
    MetFree l (⟨"java/lang/StringUTF16", "compress", "([CII)[B"⟩ : MethodName) (head1 (Jvm.Cond.code (⟨"java/lang/StringUTF16", "compress", "([CII)[B"⟩ : MethodName) jdk_52_method_16_code 6 (some (.array .byte)) :: ws) ({ frames := 1, cells := 1, slots := 2, locals := 18 } : Room)) (fun a U => a = #[(.ref r0), (.int (0 : Int32)), (.int (2 : Int32))] ∧ Z.Warmed39 U.vm ∧ U.heap = h0) (fun _ _ _ _ _ => True) (fun _ U o U' => ∃ v L, o = .returned v ∧ Q4n2 Z r0 kc c0 c1 h0 n0 v U'.heap L ∧ FrameEnd U o U' L ({ frames := 1, cells := 1, slots := 2, locals := 18 } : Room).cells ({ frames := 1, cells := 1, slots := 2, locals := 18 } : Room).slots) := by
  refine MetFree.of_bodySF (plainFor_of_name own_pn0) hisR ?_
  intro p e s m args below meth c s₁ Bd hml0 hP hK
  obtain ⟨rfl, hZ, hh⟩ := hP
  have hx := Bd.exec
  have hby := Bd.bytes
  have hml : c.maxLocals = 6 := hml0
  have hown : s.vm.findClass "java/lang/StringUTF16" = some m.cls := findClass_of_methodNamed Bd.named
  have hnm := (name_of_methodNamed Bd.named Bd.method).1
  have X0 : Stand p l e ({ frames := 1, cells := 1, slots := 2, locals := 18 } : Room) s m #[(.ref r0), (.int (0 : Int32)), (.int (2 : Int32))] below meth c s₁ [] 0 0 := Stand.of_body Bd
  have e0 : s₁.heap = h0 := by rw [← hh, Bd.state]; rfl
  have N0 := Fr.nil n0
  have KR : Keep h0 h0 [] := Keep.refl h0 _
  show Good p e below (fun o U' => ∃ v L, o = .returned v ∧ Q4n2 Z r0 kc c0 c1 h0 n0 v U'.heap L ∧ FrameEnd s o U' L ({ frames := 1, cells := 1, slots := 2, locals := 18 } : Room).cells ({ frames := 1, cells := 1, slots := 2, locals := 18 } : Room).slots) _
  refine Good.back (S' := s₁.setTop (mkF m 0 #[.val (.ref r0), .val (.int (0 : Int32)), .val (.int (2 : Int32)), .unset, .unset, .unset] [])) (fun t k => castTop (own_ef_4n2 m r0 (0 : Int32) (2 : Int32)) k) ?_
  show Good p e below _ (s₁.setTop (mkF m 0 #[.val (.ref r0), .val (.int (0 : Int32)), .val (.int (2 : Int32)), .unset, .unset, .unset] []))
  refine Good.back (fun _ k => XS.iloadN X0.here hx rfl (hb hby own_d4_0) rfl k) ?_
  show Good p e below _ (s₁.setTop (mkF m 1 #[.val (.ref r0), .val (.int (0 : Int32)), .val (.int (2 : Int32)), .unset, .unset, .unset] [(.int (2 : Int32))]))
  obtain ⟨T1, h1, k1, X1, e1, E1, A1, B1, st1⟩ := newPE X0 hx hZ (hw _ (List.mem_of_getElem? (i := 7) rfl)) e0 (g := (mkF m 1 #[.val (.ref r0), .val (.int (0 : Int32)), .val (.int (2 : Int32)), .unset, .unset, .unset] [(.int (2 : Int32))])) rfl (hb hby own_d4_1) rfl (by decide) (cap := 2) (by decide) (by decide) (by decide) (by decide) (ad := "[B") (by decide +kernel)
  obtain ⟨b1, g1⟩ : ∃ z, z = h0.size := ⟨_, rfl⟩
  rw [← g1] at A1 B1 st1
  refine Good.back st1 ?_
  have g_b1 : n0 ≤ b1 := Nat.le_trans Z0 (Nat.le_of_eq g1.symm)
  have sz_b1 : h0.size ≤ b1 := Nat.le_trans KR.1 (Nat.le_of_eq g1.symm)
  have Z2 : n0 ≤ h1.size := Nat.le_trans Z0 E1.1
  have K3 : Keep h0 h1 [] := KR.ext E1
  have f_4 : Exa Z h1 b1 "[B" := B1
  have f_5 : Arv Z h1 b1 k1 .byte (2 : Int32) [(.int (0 : Int32)), (.int (0 : Int32))] (.int (0 : Int32)) := (Arv.new A1 (by decide)).pad (pad_rep [] (.int (0 : Int32)) 2)
  show Good p e below _ (T1.setTop (mkF m 3 #[.val (.ref r0), .val (.int (0 : Int32)), .val (.int (2 : Int32)), .unset, .unset, .unset] [(.ref b1)]))
  refine Good.back (fun _ k => XS.astoreN X1.here hx rfl (hb hby own_d4_3) rfl rfl (l' := #[.val (.ref r0), .val (.int (0 : Int32)), .val (.int (2 : Int32)), .val (.ref b1), .unset, .unset]) rfl k) ?_
  show Good p e below _ (T1.setTop (mkF m 4 #[.val (.ref r0), .val (.int (0 : Int32)), .val (.int (2 : Int32)), .val (.ref b1), .unset, .unset] []))
  refine Good.back (fun _ k => XS.aloadN X1.here hx rfl (hb hby own_d4_4) rfl rfl k) ?_
  show Good p e below _ (T1.setTop (mkF m 5 #[.val (.ref r0), .val (.int (0 : Int32)), .val (.int (2 : Int32)), .val (.ref b1), .unset, .unset] [(.ref r0)]))
  refine Good.back (fun _ k => XS.iloadN X1.here hx rfl (hb hby own_d4_5) rfl k) ?_
  show Good p e below _ (T1.setTop (mkF m 6 #[.val (.ref r0), .val (.int (0 : Int32)), .val (.int (2 : Int32)), .val (.ref b1), .unset, .unset] [(.int (0 : Int32)), (.ref r0)]))
  refine Good.back (fun _ k => XS.aloadN X1.here hx rfl (hb hby own_d4_6) rfl rfl k) ?_
  show Good p e below _ (T1.setTop (mkF m 7 #[.val (.ref r0), .val (.int (0 : Int32)), .val (.int (2 : Int32)), .val (.ref b1), .unset, .unset] [(.ref b1), (.int (0 : Int32)), (.ref r0)]))
  refine Good.back (fun _ k => XS.iconst X1.here hx rfl (hb hby own_d4_7) k) ?_
  show Good p e below _ (T1.setTop (mkF m 8 #[.val (.ref r0), .val (.int (0 : Int32)), .val (.int (2 : Int32)), .val (.ref b1), .unset, .unset] [(.int (0 : Int32)), (.ref b1), (.int (0 : Int32)), (.ref r0)]))
  refine Good.back (fun _ k => XS.iloadN X1.here hx rfl (hb hby own_d4_8) rfl k) ?_
  show Good p e below _ (T1.setTop (mkF m 9 #[.val (.ref r0), .val (.int (0 : Int32)), .val (.int (2 : Int32)), .val (.ref b1), .unset, .unset] [(.int (2 : Int32)), (.int (0 : Int32)), (.ref b1), (.int (0 : Int32)), (.ref r0)]))
  have f_7 : Arv Z h1 r0 kc .char (2 : Int32) [(.int c0), (.int c1)] (.int (0 : Int32)) := Arv.ext VC E1
  have ne_r0_b1_8 : r0 ≠ b1 := Nat.ne_of_lt (Nat.lt_of_lt_of_le VC.lt (Nat.le_of_eq g1.symm))
  obtain ⟨_, _, ⟨T6, L6, k6, n6⟩, -, X6, ⟨Lc6, hQ6, l6, y6, z6⟩, st6⟩ := Jvm.LawKit.callS X1 hx (y := (⟨"java/lang/StringUTF16", "compress", "([CI[BII)I"⟩ : MethodName)) hown (mvT hZ (hw _ (List.mem_of_getElem? (i := 28) rfl))) (mvT hZ (hw _ (List.mem_of_getElem? (i := 29) rfl))) (mvT hZ (hw _ (List.mem_of_getElem? (i := 26) rfl))) (mvT hZ (hw _ (List.mem_of_getElem? (i := 30) rfl))) (by decide) (backOf (W := 0) (rm5n2 l Z a0 hw [] r0 b1 kc c0 c1 k1 h1 n0 Z2 f_7 f_5 g_b1 ne_r0_b1_8 (by first | assumption | decide) (by first | assumption | decide)) hZ (hw _ (List.mem_of_getElem? (i := 30) rfl)) (hw _ (List.mem_of_getElem? (i := 26) rfl)) (by decide) (by decide)) (g := (mkF m 9 #[.val (.ref r0), .val (.int (0 : Int32)), .val (.int (2 : Int32)), .val (.ref b1), .unset, .unset] [(.int (2 : Int32)), (.int (0 : Int32)), (.ref b1), (.int (0 : Int32)), (.ref r0)])) rfl (by rw [hml]; rfl) (argsL := [(.ref r0), (.int (0 : Int32)), (.ref b1), (.int (0 : Int32)), (.int (2 : Int32))]) (rest := []) (lenOf own_pd23 rfl) rfl (by show 2 * 0 + _ ≤ _; exact Nat.le_of_eq rfl) (hb hby own_d4_9) (fun _ _ => ⟨rfl, e1, (by decide : 1 + 0 ≤ _), (by decide : 2 + 0 ≤ _)⟩)
  dsimp only [Pt.U, Pt.locs, Pt.cells, Pt.slots] at X6 l6 y6 z6 st6 hQ6
  subst l6 y6 z6
  obtain ⟨rfl, N6q, Kq6, o6_0⟩ := hQ6
  have N6 := Fr.app N0 N6q
  have Z9 : n0 ≤ T6.heap.size := Nat.le_trans Z2 Kq6.1
  have K10 : Keep h0 T6.heap [] := K3.trans Kq6 (allS (Or.inr sz_b1) all0)
  refine Good.back st6 ?_
  show Good p e below _ (T6.setTop (mkF m 12 #[.val (.ref r0), .val (.int (0 : Int32)), .val (.int (2 : Int32)), .val (.ref b1), .unset, .unset] [(.int (2 : Int32))]))
  refine Good.back (fun _ k => XS.istore X6.here hx rfl (hb hby own_d4_12) rfl (l' := #[.val (.ref r0), .val (.int (0 : Int32)), .val (.int (2 : Int32)), .val (.ref b1), .val (.int (2 : Int32)), .unset]) rfl k) ?_
  show Good p e below _ (T6.setTop (mkF m 14 #[.val (.ref r0), .val (.int (0 : Int32)), .val (.int (2 : Int32)), .val (.ref b1), .val (.int (2 : Int32)), .unset] []))
  refine Good.back (fun _ k => XS.iload X6.here hx rfl (hb hby own_d4_14) rfl k) ?_
  show Good p e below _ (T6.setTop (mkF m 16 #[.val (.ref r0), .val (.int (0 : Int32)), .val (.int (2 : Int32)), .val (.ref b1), .val (.int (2 : Int32)), .unset] [(.int (2 : Int32))]))
  refine Good.back (fun _ k => XS.iloadN X6.here hx rfl (hb hby own_d4_16) rfl k) ?_
  show Good p e below _ (T6.setTop (mkF m 17 #[.val (.ref r0), .val (.int (0 : Int32)), .val (.int (2 : Int32)), .val (.ref b1), .val (.int (2 : Int32)), .unset] [(.int (2 : Int32)), (.int (2 : Int32))]))
  refine Good.back (fun _ k => XS.icmpYes X6.here hx rfl (pc0 := 17) (pc' := 57) rfl (hb hby own_d4_17) rfl (teq (by decide : ((2 : Int32) = (2 : Int32)))).1 (by decide) (by decide) k) ?_
  show Good p e below _ (T6.setTop (mkF m 57 #[.val (.ref r0), .val (.int (0 : Int32)), .val (.int (2 : Int32)), .val (.ref b1), .val (.int (2 : Int32)), .unset] []))
  refine Good.back (fun _ k => XS.aloadN X6.here hx rfl (hb hby own_d4_57) rfl rfl k) ?_
  show Good p e below _ (T6.setTop (mkF m 58 #[.val (.ref r0), .val (.int (0 : Int32)), .val (.int (2 : Int32)), .val (.ref b1), .val (.int (2 : Int32)), .unset] [(.ref b1)]))
  obtain ⟨fs11, hr11, hrun11, hended11, hW11, hsame11⟩ := X6.leave (v := some (.ref b1)) (fun h => by rw [Bd.returns] at h; cases h)
  refine Good.done (retOut X6 hx Bd.returns rfl (Or.inr (Or.inr (Or.inr (Or.inr ⟨rfl, rfl, rfl⟩)))) (hb hby own_d4_58) hr11) hrun11 hended11 ⟨_, _, rfl, ?_, ⟨_, rfl⟩, hW11, hsame11.mono (by decide) (by decide)⟩
  show Q4n2 Z r0 kc c0 c1 h0 n0 _ T6.heap _
  have f_12 : Exa Z T6.heap b1 "[B" := Exa.keep f_4 Kq6
  exact ⟨_, _, rfl, N6, K10, sz_b1, o6_0, f_12⟩
theorem own_ef_6n2 (m : MethodId) (x0 : Addr) (x1 : Int32) : entryFrame m #[(.ref x0), (.int x1)] 2 = mkF m 0 #[.val (.ref x0), .val (.int x1)] [] := by first | (simp [entryFrame, mkF, argsToLocals, Value.category]; done) | rfl
def Q6n2 (Z : State) (r0 : Addr) (kb : ClassId) (d0 : Value) (d1 : Value) (h0 : Heap) (n0 : Nat) (v : Option Value) (h : Heap) (L : List Loc) : Prop := v = some (.int 0) ∧ Fr n0 L ∧ h = h0
set_option maxRecDepth 65536 in
set_option maxHeartbeats 40000000 in
theorem rm6n2 (l : Launch) (Z : State) (a0 : Array Value) (hw : ∀ d ∈ tables_1, d.before a0 Z = true) (ws : List Jvm.Cond) (r0 : Addr) (kb : ClassId) (d0 : Value) (d1 : Value) (h0 : Heap) (n0 : Nat) (Z0 : n0 ≤ h0.size) (VB : Arv Z h0 r0 kb .byte (2 : Int32) [d0, d1] (.int (0 : Int32))) :
    MetFree l (⟨"java/lang/StringUTF16", "coderFromArrayLen", "([BI)B"⟩ : MethodName) (head1 (Jvm.Cond.code (⟨"java/lang/StringUTF16", "coderFromArrayLen", "([BI)B"⟩ : MethodName) jdk_52_method_15_code 2 (some .byte) :: ws) ({ frames := 0, cells := 0, slots := 0, locals := 0 } : Room)) (fun a U => a = #[(.ref r0), (.int (2 : Int32))] ∧ Z.Warmed39 U.vm ∧ U.heap = h0) (fun _ _ _ _ _ => True) (fun _ U o U' => ∃ v L, o = .returned v ∧ Q6n2 Z r0 kb d0 d1 h0 n0 v U'.heap L ∧ FrameEnd U o U' L ({ frames := 0, cells := 0, slots := 0, locals := 0 } : Room).cells ({ frames := 0, cells := 0, slots := 0, locals := 0 } : Room).slots) := by
  refine MetFree.of_bodySF (plainFor_of_name own_pn0) hisR ?_
  intro p e s m args below meth c s₁ Bd hml0 hP hK
  obtain ⟨rfl, hZ, hh⟩ := hP
  have hx := Bd.exec
  have hby := Bd.bytes
  have hml : c.maxLocals = 2 := hml0
  have hown : s.vm.findClass "java/lang/StringUTF16" = some m.cls := findClass_of_methodNamed Bd.named
  have hnm := (name_of_methodNamed Bd.named Bd.method).1
  have X0 : Stand p l e ({ frames := 0, cells := 0, slots := 0, locals := 0 } : Room) s m #[(.ref r0), (.int (2 : Int32))] below meth c s₁ [] 0 0 := Stand.of_body Bd
  have e0 : s₁.heap = h0 := by rw [← hh, Bd.state]; rfl
  have N0 := Fr.nil n0
  show Good p e below (fun o U' => ∃ v L, o = .returned v ∧ Q6n2 Z r0 kb d0 d1 h0 n0 v U'.heap L ∧ FrameEnd s o U' L ({ frames := 0, cells := 0, slots := 0, locals := 0 } : Room).cells ({ frames := 0, cells := 0, slots := 0, locals := 0 } : Room).slots) _
  refine Good.back (S' := s₁.setTop (mkF m 0 #[.val (.ref r0), .val (.int (2 : Int32))] [])) (fun t k => castTop (own_ef_6n2 m r0 (2 : Int32)) k) ?_
  show Good p e below _ (s₁.setTop (mkF m 0 #[.val (.ref r0), .val (.int (2 : Int32))] []))
  refine Good.back (fun _ k => XS.iloadN X0.here hx rfl (hb hby own_d6_0) rfl k) ?_
  show Good p e below _ (s₁.setTop (mkF m 1 #[.val (.ref r0), .val (.int (2 : Int32))] [(.int (2 : Int32))]))
  refine Good.back (fun _ k => XS.aloadN X0.here hx rfl (hb hby own_d6_1) rfl rfl k) ?_
  show Good p e below _ (s₁.setTop (mkF m 2 #[.val (.ref r0), .val (.int (2 : Int32))] [(.ref r0), (.int (2 : Int32))]))
  have fc1 := VB
  obtain ⟨cl1, Ar1, qk1, S1, N1', H1, G1⟩ := fc1
  refine Good.back (X0.arraylength hx (by rw [e0]; exact Ar1.1) (State.isArrayOf_alike hZ.alike Ar1.2.1) (g := (mkF m 2 #[.val (.ref r0), .val (.int (2 : Int32))] [(.ref r0), (.int (2 : Int32))])) rfl rfl (hb hby own_d6_2)) ?_
  rw [len_of S1 N1']
  show Good p e below _ (s₁.setTop (mkF m 3 #[.val (.ref r0), .val (.int (2 : Int32))] [(.int (2 : Int32)), (.int (2 : Int32))]))
  refine Good.back (fun _ k => XS.isub X0.here hx rfl (hb hby own_d6_3) rfl k) ?_
  show Good p e below _ (s₁.setTop (mkF m 4 #[.val (.ref r0), .val (.int (2 : Int32))] [(.int ((2 : Int32) - (2 : Int32)))]))
  rw [show (((2 : Int32) - (2 : Int32)) : Int32) = (0 : Int32) from by decide]
  show Good p e below _ (s₁.setTop (mkF m 4 #[.val (.ref r0), .val (.int (2 : Int32))] [(.int (0 : Int32))]))
  refine Good.back (fun _ k => XS.bipush X0.here hx rfl (hb hby own_d6_4) k) ?_
  show Good p e below _ (s₁.setTop (mkF m 6 #[.val (.ref r0), .val (.int (2 : Int32))] [(.int (31 : Int32)), (.int (0 : Int32))]))
  refine Good.back (fun _ k => XS.iushr X0.here hx rfl (hb hby own_d6_6) rfl k) ?_
  show Good p e below _ (s₁.setTop (mkF m 7 #[.val (.ref r0), .val (.int (2 : Int32))] [(.int (((0 : Int32).toUInt32 >>> ((31 : Int32) &&& 31).toUInt32).toInt32))]))
  rw [show ((((0 : Int32).toUInt32 >>> ((31 : Int32) &&& 31).toUInt32).toInt32) : Int32) = (0 : Int32) from by decide]
  show Good p e below _ (s₁.setTop (mkF m 7 #[.val (.ref r0), .val (.int (2 : Int32))] [(.int (0 : Int32))]))
  refine Good.back (fun _ k => XS.i2b X0.here hx rfl (hb hby own_d6_7) rfl k) ?_
  show Good p e below _ (s₁.setTop (mkF m 8 #[.val (.ref r0), .val (.int (2 : Int32))] [(.int ((0 : Int32).toInt8.toInt32))]))
  obtain ⟨fs2, hr2, hrun2, hended2, hW2, hsame2⟩ := X0.leave (v := some (.int (nar .byte ((0 : Int32).toInt8.toInt32)))) (fun h => by rw [Bd.returns] at h; cases h)
  refine Good.done (retN X0 hx (t := .byte) Bd.returns (by simp) (hb hby own_d6_8) hr2) hrun2 hended2 ⟨_, _, rfl, ?_, ⟨_, rfl⟩, hW2, hsame2.mono (by decide) (by decide)⟩
  show Q6n2 Z r0 kb d0 d1 h0 n0 _ s₁.heap _
  rw [e0]
  exact ⟨congrArg (fun z => some (Value.int z)) (by decide), N0, rfl⟩
theorem own_ef_2n2 (m : MethodId) (x0 : Addr) (x1 : Addr) (x2 : Int32) (x3 : Int32) : entryFrame m #[(.ref x0), (.ref x1), (.int x2), (.int x3), .null] 6 = mkF m 0 #[.val (.ref x0), .val (.ref x1), .val (.int x2), .val (.int x3), .val .null, .unset] [] := by first | (simp [entryFrame, mkF, argsToLocals, Value.category]; done) | rfl
def Q2n2 (Z : State) (r0 : Addr) (r1 : Addr) (cs : Int32) (kc : ClassId) (c0 : Int32) (c1 : Int32) (h0 : Heap) (n0 : Nat) (v : Option Value) (h : Heap) (L : List Loc) : Prop := ∃ (ar : Addr) (kb : ClassId), v = none ∧ Fr n0 L ∧ Keep h0 h [r0] ∧ h0.size ≤ ar ∧ Fld Z h r0 "java/lang/String" "value" "[B" (.ref ar) ∧ Fld Z h r0 "java/lang/String" "coder" "B" (.int (0 : Int32)) ∧ Arv Z h ar kb .byte (2 : Int32) [(.int (c0.toInt8.toInt32).toInt8.toInt32), (.int (c1.toInt8.toInt32).toInt8.toInt32)] (.int (0 : Int32)) ∧ Exa Z h ar "[B"
set_option maxRecDepth 65536 in
set_option maxHeartbeats 40000000 in
theorem rm2n2 (l : Launch) (Z : State) (a0 : Array Value) (hw : ∀ d ∈ tables_1, d.before a0 Z = true) (ws : List Jvm.Cond) (r0 : Addr) (r1 : Addr) (cs : Int32) (kc : ClassId) (c0 : Int32) (c1 : Int32) (h0 : Heap) (n0 : Nat) (Z0 : n0 ≤ h0.size) (S_cs : Sta Z h0 "java/lang/String" "COMPACT_STRINGS" "Z" (.int cs)) (hcs : ¬ (cs = (0 : Int32))) (E0 : Exa Z h0 r0 "java/lang/String") (g0 : n0 ≤ r0) (F_value : Fld Z h0 r0 "java/lang/String" "value" "[B" .null) (F_coder : Fld Z h0 r0 "java/lang/String" "coder" "B" (.int (0 : Int32))) (VC : Arv Z h0 r1 kc .char (2 : Int32) [(.int c0), (.int c1)] (.int (0 : Int32))) (hle0 : ¬ ((255 : Int32) < c0)) (hle1 : ¬ ((255 : Int32) < c1)) :
    MetFree l (⟨"java/lang/String", "<init>", "([CIILjava/lang/Void;)V"⟩ : MethodName) (head1 (Jvm.Cond.code (⟨"java/lang/String", "<init>", "([CIILjava/lang/Void;)V"⟩ : MethodName) jdk_42_method_149_code 6 none :: ws) ({ frames := 2, cells := 1, slots := 2, locals := 35 } : Room)) (fun a U => a = #[(.ref r0), (.ref r1), (.int (0 : Int32)), (.int (2 : Int32)), .null] ∧ Z.Warmed39 U.vm ∧ U.heap = h0) (fun _ _ _ _ _ => True) (fun _ U o U' => ∃ v L, o = .returned v ∧ Q2n2 Z r0 r1 cs kc c0 c1 h0 n0 v U'.heap L ∧ FrameEnd U o U' L ({ frames := 2, cells := 1, slots := 2, locals := 35 } : Room).cells ({ frames := 2, cells := 1, slots := 2, locals := 35 } : Room).slots) := by
  refine MetFree.of_bodySF (plainFor_of_name own_pn1) hisR ?_
  intro p e s m args below meth c s₁ Bd hml0 hP hK
  obtain ⟨rfl, hZ, hh⟩ := hP
  have hx := Bd.exec
  have hby := Bd.bytes
  have hml : c.maxLocals = 6 := hml0
  have hown : s.vm.findClass "java/lang/String" = some m.cls := findClass_of_methodNamed Bd.named
  have hnm := (name_of_methodNamed Bd.named Bd.method).1
  have X0 : Stand p l e ({ frames := 2, cells := 1, slots := 2, locals := 35 } : Room) s m #[(.ref r0), (.ref r1), (.int (0 : Int32)), (.int (2 : Int32)), .null] below meth c s₁ [] 0 0 := Stand.of_body Bd
  have e0 : s₁.heap = h0 := by rw [← hh, Bd.state]; rfl
  have N0 := Fr.nil n0
  have KR : Keep h0 h0 [r0] := Keep.refl h0 _
  show Good p e below (fun o U' => ∃ v L, o = .returned v ∧ Q2n2 Z r0 r1 cs kc c0 c1 h0 n0 v U'.heap L ∧ FrameEnd s o U' L ({ frames := 2, cells := 1, slots := 2, locals := 35 } : Room).cells ({ frames := 2, cells := 1, slots := 2, locals := 35 } : Room).slots) _
  refine Good.back (S' := s₁.setTop (mkF m 0 #[.val (.ref r0), .val (.ref r1), .val (.int (0 : Int32)), .val (.int (2 : Int32)), .val .null, .unset] [])) (fun t k => castTop (own_ef_2n2 m r0 r1 (0 : Int32) (2 : Int32)) k) ?_
  show Good p e below _ (s₁.setTop (mkF m 0 #[.val (.ref r0), .val (.ref r1), .val (.int (0 : Int32)), .val (.int (2 : Int32)), .val .null, .unset] []))
  refine Good.back (fun _ k => XS.aloadN X0.here hx rfl (hb hby own_d2_0) rfl rfl k) ?_
  show Good p e below _ (s₁.setTop (mkF m 1 #[.val (.ref r0), .val (.ref r1), .val (.int (0 : Int32)), .val (.int (2 : Int32)), .val .null, .unset] [(.ref r0)]))
  obtain ⟨T1, X1, e1, st1⟩ := initO X0 hx hZ hown (hw _ (List.mem_of_getElem? (i := 20) rfl)) (hw _ (List.mem_of_getElem? (i := 21) rfl)) (hw _ (List.mem_of_getElem? (i := 22) rfl)) e0 (g := (mkF m 1 #[.val (.ref r0), .val (.ref r1), .val (.int (0 : Int32)), .val (.int (2 : Int32)), .val .null, .unset] [(.ref r0)])) rfl (by rw [hml]; rfl) rfl (hb hby own_d2_1) (by decide) (W := 0) (by show 2 * 0 + _ ≤ _; exact Nat.le_of_eq rfl) (by decide)
  refine Good.back st1 ?_
  show Good p e below _ (T1.setTop (mkF m 4 #[.val (.ref r0), .val (.ref r1), .val (.int (0 : Int32)), .val (.int (2 : Int32)), .val .null, .unset] []))
  refine Good.back (fun _ k => XS.iloadN X1.here hx rfl (hb hby own_d2_4) rfl k) ?_
  show Good p e below _ (T1.setTop (mkF m 5 #[.val (.ref r0), .val (.ref r1), .val (.int (0 : Int32)), .val (.int (2 : Int32)), .val .null, .unset] [(.int (2 : Int32))]))
  refine Good.back (fun _ k => XS.ifYes X1.here hx rfl (pc0 := 5) (pc' := 27) rfl (hb hby own_d2_5) rfl ((if0 _ _).trans (feq (by decide : ¬ ((2 : Int32) = (0 : Int32)))).2) (by decide) (by decide) k) ?_
  show Good p e below _ (T1.setTop (mkF m 27 #[.val (.ref r0), .val (.ref r1), .val (.int (0 : Int32)), .val (.int (2 : Int32)), .val .null, .unset] []))
  obtain ⟨T2, X2, e2, st2⟩ := getS2 X1 hx hZ hown (host := "") (Or.inl (hw _ (List.mem_of_getElem? (i := 23) rfl))) Via.refl e1 S_cs (g := (mkF m 27 #[.val (.ref r0), .val (.ref r1), .val (.int (0 : Int32)), .val (.int (2 : Int32)), .val .null, .unset] [])) rfl (hb hby own_d2_27)
  refine Good.back st2 ?_
  show Good p e below _ (T2.setTop (mkF m 30 #[.val (.ref r0), .val (.ref r1), .val (.int (0 : Int32)), .val (.int (2 : Int32)), .val .null, .unset] [(.int cs)]))
  refine Good.back (fun _ k => XS.ifNo X2.here hx rfl (hb hby own_d2_30) rfl ((if0 _ _).trans (feq hcs).1) k) ?_
  show Good p e below _ (T2.setTop (mkF m 33 #[.val (.ref r0), .val (.ref r1), .val (.int (0 : Int32)), .val (.int (2 : Int32)), .val .null, .unset] []))
  refine Good.back (fun _ k => XS.aloadN X2.here hx rfl (hb hby own_d2_33) rfl rfl k) ?_
  show Good p e below _ (T2.setTop (mkF m 34 #[.val (.ref r0), .val (.ref r1), .val (.int (0 : Int32)), .val (.int (2 : Int32)), .val .null, .unset] [(.ref r1)]))
  refine Good.back (fun _ k => XS.iloadN X2.here hx rfl (hb hby own_d2_34) rfl k) ?_
  show Good p e below _ (T2.setTop (mkF m 35 #[.val (.ref r0), .val (.ref r1), .val (.int (0 : Int32)), .val (.int (2 : Int32)), .val .null, .unset] [(.int (0 : Int32)), (.ref r1)]))
  refine Good.back (fun _ k => XS.iloadN X2.here hx rfl (hb hby own_d2_35) rfl k) ?_
  show Good p e below _ (T2.setTop (mkF m 36 #[.val (.ref r0), .val (.ref r1), .val (.int (0 : Int32)), .val (.int (2 : Int32)), .val .null, .unset] [(.int (2 : Int32)), (.int (0 : Int32)), (.ref r1)]))
  obtain ⟨_, _, ⟨T3, L3, k3, n3⟩, -, X3, ⟨Lc3, hQ3, l3, y3, z3⟩, st3⟩ := Jvm.LawKit.callS X2 hx (y := (⟨"java/lang/StringUTF16", "compress", "([CII)[B"⟩ : MethodName)) hown (mvT hZ (hw _ (List.mem_of_getElem? (i := 24) rfl))) (mvT hZ (hw _ (List.mem_of_getElem? (i := 25) rfl))) (mvT hZ (hw _ (List.mem_of_getElem? (i := 26) rfl))) (mvT hZ (hw _ (List.mem_of_getElem? (i := 27) rfl))) (by decide) (backOf (W := 0) (rm4n2 l Z a0 hw [] r1 kc c0 c1 h0 n0 Z0 VC (by first | assumption | decide) (by first | assumption | decide)) hZ (hw _ (List.mem_of_getElem? (i := 27) rfl)) (hw _ (List.mem_of_getElem? (i := 26) rfl)) (by decide) (by decide)) (g := (mkF m 36 #[.val (.ref r0), .val (.ref r1), .val (.int (0 : Int32)), .val (.int (2 : Int32)), .val .null, .unset] [(.int (2 : Int32)), (.int (0 : Int32)), (.ref r1)])) rfl (by rw [hml]; rfl) (argsL := [(.ref r1), (.int (0 : Int32)), (.int (2 : Int32))]) (rest := []) (lenOf own_pd47 rfl) rfl (by show 2 * 0 + _ ≤ _; exact Nat.le_of_eq rfl) (hb hby own_d2_36) (fun _ _ => ⟨rfl, e2, (by decide : 0 + 1 ≤ _), (by decide : 0 + 2 ≤ _)⟩)
  dsimp only [Pt.U, Pt.locs, Pt.cells, Pt.slots] at X3 l3 y3 z3 st3 hQ3
  subst l3 y3 z3
  obtain ⟨ar_3, kb_3, rfl, N3q, Kq3, o3_0, o3_1, o3_2⟩ := hQ3
  have N3 := Fr.app N0 N3q
  have Z4 : n0 ≤ T3.heap.size := Nat.le_trans Z0 Kq3.1
  have K5 : Keep h0 T3.heap [r0] := KR.trans Kq3 all0
  have g_ar_3 : n0 ≤ ar_3 := Nat.le_trans Z0 o3_0
  have sz_ar_3 : h0.size ≤ ar_3 := Nat.le_trans KR.1 o3_0
  refine Good.back st3 ?_
  show Good p e below _ (T3.setTop (mkF m 39 #[.val (.ref r0), .val (.ref r1), .val (.int (0 : Int32)), .val (.int (2 : Int32)), .val .null, .unset] [(.ref ar_3)]))
  refine Good.back (fun _ k => XS.astore X3.here hx rfl (hb hby own_d2_39) rfl rfl (l' := #[.val (.ref r0), .val (.ref r1), .val (.int (0 : Int32)), .val (.int (2 : Int32)), .val .null, .val (.ref ar_3)]) rfl k) ?_
  show Good p e below _ (T3.setTop (mkF m 41 #[.val (.ref r0), .val (.ref r1), .val (.int (0 : Int32)), .val (.int (2 : Int32)), .val .null, .val (.ref ar_3)] []))
  refine Good.back (fun _ k => XS.aloadN X3.here hx rfl (hb hby own_d2_41) rfl rfl k) ?_
  show Good p e below _ (T3.setTop (mkF m 42 #[.val (.ref r0), .val (.ref r1), .val (.int (0 : Int32)), .val (.int (2 : Int32)), .val .null, .val (.ref ar_3)] [(.ref r0)]))
  refine Good.back (fun _ k => XS.aload X3.here hx rfl (hb hby own_d2_42) rfl rfl k) ?_
  show Good p e below _ (T3.setTop (mkF m 44 #[.val (.ref r0), .val (.ref r1), .val (.int (0 : Int32)), .val (.int (2 : Int32)), .val .null, .val (.ref ar_3)] [(.ref ar_3), (.ref r0)]))
  refine Good.back (fun _ k => XS.iloadN X3.here hx rfl (hb hby own_d2_44) rfl k) ?_
  show Good p e below _ (T3.setTop (mkF m 45 #[.val (.ref r0), .val (.ref r1), .val (.int (0 : Int32)), .val (.int (2 : Int32)), .val .null, .val (.ref ar_3)] [(.int (2 : Int32)), (.ref ar_3), (.ref r0)]))
  obtain ⟨_, _, ⟨T6, L6, k6, n6⟩, -, X6, ⟨Lc6, hQ6, l6, y6, z6⟩, st6⟩ := Jvm.LawKit.callS X3 hx (y := (⟨"java/lang/StringUTF16", "coderFromArrayLen", "([BI)B"⟩ : MethodName)) hown (mvT hZ (hw _ (List.mem_of_getElem? (i := 31) rfl))) (mvT hZ (hw _ (List.mem_of_getElem? (i := 32) rfl))) (mvT hZ (hw _ (List.mem_of_getElem? (i := 26) rfl))) (mvT hZ (hw _ (List.mem_of_getElem? (i := 33) rfl))) (by decide) (backOf (W := 1) (rm6n2 l Z a0 hw [] ar_3 kb_3 (.int (c0.toInt8.toInt32).toInt8.toInt32) (.int (c1.toInt8.toInt32).toInt8.toInt32) T3.heap n0 Z4 o3_1) hZ (hw _ (List.mem_of_getElem? (i := 33) rfl)) (hw _ (List.mem_of_getElem? (i := 26) rfl)) (by decide) (by decide)) (g := (mkF m 45 #[.val (.ref r0), .val (.ref r1), .val (.int (0 : Int32)), .val (.int (2 : Int32)), .val .null, .val (.ref ar_3)] [(.int (2 : Int32)), (.ref ar_3), (.ref r0)])) rfl (by rw [hml]; rfl) (argsL := [(.ref ar_3), (.int (2 : Int32))]) (rest := [(.ref r0)]) (lenOf own_pd48 rfl) rfl (by show 2 * 0 + _ ≤ _; exact Nat.le_of_eq rfl) (hb hby own_d2_45) (fun _ _ => ⟨rfl, rfl, (by decide : 1 + 0 ≤ _), (by decide : 2 + 0 ≤ _)⟩)
  dsimp only [Pt.U, Pt.locs, Pt.cells, Pt.slots] at X6 l6 y6 z6 st6 hQ6
  subst l6 y6 z6
  obtain ⟨rfl, N6q, eh6⟩ := hQ6
  have N6 := Fr.app N3 N6q
  refine Good.back st6 ?_
  show Good p e below _ (T6.setTop (mkF m 48 #[.val (.ref r0), .val (.ref r1), .val (.int (0 : Int32)), .val (.int (2 : Int32)), .val .null, .val (.ref ar_3)] [(.int (0 : Int32)), (.ref r0)]))
  have f_7 : Fld Z T3.heap r0 "java/lang/String" "coder" "B" (.int (0 : Int32)) := Fld.keep F_coder Kq3 nin0
  have f_8 : Exa Z T3.heap r0 "java/lang/String" := Exa.keep E0 Kq3
  obtain ⟨T9, h9, X9, e9, W9, st9⟩ := putFN X6 hx hZ hown (hw _ (List.mem_of_getElem? (i := 34) rfl)) Via.refl eh6 f_7 f_8 (Or.inr ⟨(hw _ (List.mem_of_getElem? (i := 9) rfl)), rfl, hnm⟩) (hw _ (List.mem_of_getElem? (i := 6) rfl)) (ty := .byte) (v' := (.int (0 : Int32))) (by decide) rfl (by decide) (g := (mkF m 48 #[.val (.ref r0), .val (.ref r1), .val (.int (0 : Int32)), .val (.int (2 : Int32)), .val .null, .val (.ref ar_3)] [(.int (0 : Int32)), (.ref r0)])) rfl rfl (hb hby own_d2_48)
  refine Good.back st9 ?_
  have f_10 : Fld Z h9 r0 "java/lang/String" "coder" "B" (.int (0 : Int32)) := Fld.same W9 f_7
  have N9 := Fr.snoc X9 N6 g0
  have Z11 : n0 ≤ h9.size := Nat.le_trans Z4 (Keep.of_wr W9).1
  have K12 : Keep h0 h9 [r0] := K5.wr W9 (Or.inl (List.mem_of_getElem? (i := 0) rfl))
  show Good p e below _ (T9.setTop (mkF m 51 #[.val (.ref r0), .val (.ref r1), .val (.int (0 : Int32)), .val (.int (2 : Int32)), .val .null, .val (.ref ar_3)] []))
  refine Good.back (fun _ k => XS.aloadN X9.here hx rfl (hb hby own_d2_51) rfl rfl k) ?_
  show Good p e below _ (T9.setTop (mkF m 52 #[.val (.ref r0), .val (.ref r1), .val (.int (0 : Int32)), .val (.int (2 : Int32)), .val .null, .val (.ref ar_3)] [(.ref r0)]))
  refine Good.back (fun _ k => XS.aload X9.here hx rfl (hb hby own_d2_52) rfl rfl k) ?_
  show Good p e below _ (T9.setTop (mkF m 54 #[.val (.ref r0), .val (.ref r1), .val (.int (0 : Int32)), .val (.int (2 : Int32)), .val .null, .val (.ref ar_3)] [(.ref ar_3), (.ref r0)]))
  have f_13 : Fld Z T3.heap r0 "java/lang/String" "value" "[B" .null := Fld.keep F_value Kq3 nin0
  have f_14 : Fld Z h9 r0 "java/lang/String" "value" "[B" .null := Fld.other W9 f_13 (Or.inr (slot_ne (Or.inr (hw _ (List.mem_of_getElem? (i := 8) rfl))) (Or.inr (hw _ (List.mem_of_getElem? (i := 9) rfl))) (by decide) (t := (.array .byte)) (t' := .byte) (by decide) (by decide)))
  have f_15 : Exa Z h9 r0 "java/lang/String" := Exa.wr W9 f_8
  obtain ⟨T16, h16, X16, e16, W16, st16⟩ := putF X9 hx hZ hown (host := "") (Or.inl (hw _ (List.mem_of_getElem? (i := 35) rfl))) Via.refl e9 f_14 f_15 (Or.inr ⟨(hw _ (List.mem_of_getElem? (i := 8) rfl)), rfl, hnm⟩) (hw _ (List.mem_of_getElem? (i := 6) rfl)) (ty := (.array .byte)) (by decide) rfl rfl (g := (mkF m 54 #[.val (.ref r0), .val (.ref r1), .val (.int (0 : Int32)), .val (.int (2 : Int32)), .val .null, .val (.ref ar_3)] [(.ref ar_3), (.ref r0)])) rfl rfl (hb hby own_d2_54)
  refine Good.back st16 ?_
  have f_17 : Fld Z h16 r0 "java/lang/String" "value" "[B" (.ref ar_3) := Fld.same W16 f_14
  have N16 := Fr.snoc X16 N9 g0
  have Z18 : n0 ≤ h16.size := Nat.le_trans Z11 (Keep.of_wr W16).1
  have K19 : Keep h0 h16 [r0] := K12.wr W16 (Or.inl (List.mem_of_getElem? (i := 0) rfl))
  show Good p e below _ (T16.setTop (mkF m 57 #[.val (.ref r0), .val (.ref r1), .val (.int (0 : Int32)), .val (.int (2 : Int32)), .val .null, .val (.ref ar_3)] []))
  obtain ⟨fs20, hr20, hrun20, hended20, hW20, hsame20⟩ := X16.leave (v := none) (fun _ => rfl)
  refine Good.done (X16.returnOut hx Bd.returns (hb hby own_d2_57) hr20) hrun20 hended20 ⟨_, _, rfl, ?_, ⟨_, rfl⟩, hW20, hsame20.mono (by decide) (by decide)⟩
  show Q2n2 Z r0 r1 cs kc c0 c1 h0 n0 _ T16.heap _
  rw [e16]
  have f_21 : Fld Z h16 r0 "java/lang/String" "coder" "B" (.int (0 : Int32)) := Fld.other W16 f_10 (Or.inr (slot_ne (Or.inr (hw _ (List.mem_of_getElem? (i := 9) rfl))) (Or.inr (hw _ (List.mem_of_getElem? (i := 8) rfl))) (by decide) (t := .byte) (t' := (.array .byte)) (by decide) (by decide)))
  have ne_r0_ar_3_23 : r0 ≠ ar_3 := Nat.ne_of_lt (Nat.lt_of_lt_of_le F_coder.lt o3_0)
  have f_22 : Arv Z h9 ar_3 kb_3 .byte (2 : Int32) [(.int (c0.toInt8.toInt32).toInt8.toInt32), (.int (c1.toInt8.toInt32).toInt8.toInt32)] (.int (0 : Int32)) := Arv.other o3_1 W9 (Ne.symm ne_r0_ar_3_23)
  have f_24 : Arv Z h16 ar_3 kb_3 .byte (2 : Int32) [(.int (c0.toInt8.toInt32).toInt8.toInt32), (.int (c1.toInt8.toInt32).toInt8.toInt32)] (.int (0 : Int32)) := Arv.other f_22 W16 (Ne.symm ne_r0_ar_3_23)
  have f_25 : Exa Z h9 ar_3 "[B" := Exa.wr W9 o3_2
  have f_26 : Exa Z h16 ar_3 "[B" := Exa.wr W16 f_25
  exact ⟨_, _, rfl, N16, K19, sz_ar_3, f_17, f_21, f_24, f_26⟩
theorem own_ef_1n2 (m : MethodId) (x0 : Addr) (x1 : Addr) : entryFrame m #[(.ref x0), (.ref x1)] 2 = mkF m 0 #[.val (.ref x0), .val (.ref x1)] [] := by first | (simp [entryFrame, mkF, argsToLocals, Value.category]; done) | rfl
def Q1n2 (Z : State) (r0 : Addr) (r1 : Addr) (cs : Int32) (kc : ClassId) (c0 : Int32) (c1 : Int32) (h0 : Heap) (n0 : Nat) (v : Option Value) (h : Heap) (L : List Loc) : Prop := ∃ (ar : Addr) (kb : ClassId), v = none ∧ Fr n0 L ∧ Keep h0 h [r0] ∧ h0.size ≤ ar ∧ Fld Z h r0 "java/lang/String" "value" "[B" (.ref ar) ∧ Fld Z h r0 "java/lang/String" "coder" "B" (.int (0 : Int32)) ∧ Arv Z h ar kb .byte (2 : Int32) [(.int (c0.toInt8.toInt32).toInt8.toInt32), (.int (c1.toInt8.toInt32).toInt8.toInt32)] (.int (0 : Int32)) ∧ Exa Z h ar "[B"
set_option maxRecDepth 65536 in
set_option maxHeartbeats 40000000 in
theorem rm1n2 (l : Launch) (Z : State) (a0 : Array Value) (hw : ∀ d ∈ tables_1, d.before a0 Z = true) (ws : List Jvm.Cond) (r0 : Addr) (r1 : Addr) (cs : Int32) (kc : ClassId) (c0 : Int32) (c1 : Int32) (h0 : Heap) (n0 : Nat) (Z0 : n0 ≤ h0.size) (S_cs : Sta Z h0 "java/lang/String" "COMPACT_STRINGS" "Z" (.int cs)) (hcs : ¬ (cs = (0 : Int32))) (E0 : Exa Z h0 r0 "java/lang/String") (g0 : n0 ≤ r0) (F_value : Fld Z h0 r0 "java/lang/String" "value" "[B" .null) (F_coder : Fld Z h0 r0 "java/lang/String" "coder" "B" (.int (0 : Int32))) (VC : Arv Z h0 r1 kc .char (2 : Int32) [(.int c0), (.int c1)] (.int (0 : Int32))) (hle0 : ¬ ((255 : Int32) < c0)) (hle1 : ¬ ((255 : Int32) < c1)) :
    MetFree l (⟨"java/lang/String", "<init>", "([C)V"⟩ : MethodName) (head1 (Jvm.Cond.code (⟨"java/lang/String", "<init>", "([C)V"⟩ : MethodName) jdk_42_method_3_code 2 none :: ws) ({ frames := 3, cells := 1, slots := 2, locals := 52 } : Room)) (fun a U => a = #[(.ref r0), (.ref r1)] ∧ Z.Warmed39 U.vm ∧ U.heap = h0) (fun _ _ _ _ _ => True) (fun _ U o U' => ∃ v L, o = .returned v ∧ Q1n2 Z r0 r1 cs kc c0 c1 h0 n0 v U'.heap L ∧ FrameEnd U o U' L ({ frames := 3, cells := 1, slots := 2, locals := 52 } : Room).cells ({ frames := 3, cells := 1, slots := 2, locals := 52 } : Room).slots) := by
  refine MetFree.of_bodySF (plainFor_of_name own_pn1) hisR ?_
  intro p e s m args below meth c s₁ Bd hml0 hP hK
  obtain ⟨rfl, hZ, hh⟩ := hP
  have hx := Bd.exec
  have hby := Bd.bytes
  have hml : c.maxLocals = 2 := hml0
  have hown : s.vm.findClass "java/lang/String" = some m.cls := findClass_of_methodNamed Bd.named
  have hnm := (name_of_methodNamed Bd.named Bd.method).1
  have X0 : Stand p l e ({ frames := 3, cells := 1, slots := 2, locals := 52 } : Room) s m #[(.ref r0), (.ref r1)] below meth c s₁ [] 0 0 := Stand.of_body Bd
  have e0 : s₁.heap = h0 := by rw [← hh, Bd.state]; rfl
  have N0 := Fr.nil n0
  have KR : Keep h0 h0 [r0] := Keep.refl h0 _
  show Good p e below (fun o U' => ∃ v L, o = .returned v ∧ Q1n2 Z r0 r1 cs kc c0 c1 h0 n0 v U'.heap L ∧ FrameEnd s o U' L ({ frames := 3, cells := 1, slots := 2, locals := 52 } : Room).cells ({ frames := 3, cells := 1, slots := 2, locals := 52 } : Room).slots) _
  refine Good.back (S' := s₁.setTop (mkF m 0 #[.val (.ref r0), .val (.ref r1)] [])) (fun t k => castTop (own_ef_1n2 m r0 r1) k) ?_
  show Good p e below _ (s₁.setTop (mkF m 0 #[.val (.ref r0), .val (.ref r1)] []))
  refine Good.back (fun _ k => XS.aloadN X0.here hx rfl (hb hby own_d1_0) rfl rfl k) ?_
  show Good p e below _ (s₁.setTop (mkF m 1 #[.val (.ref r0), .val (.ref r1)] [(.ref r0)]))
  refine Good.back (fun _ k => XS.aloadN X0.here hx rfl (hb hby own_d1_1) rfl rfl k) ?_
  show Good p e below _ (s₁.setTop (mkF m 2 #[.val (.ref r0), .val (.ref r1)] [(.ref r1), (.ref r0)]))
  refine Good.back (fun _ k => XS.iconst X0.here hx rfl (hb hby own_d1_2) k) ?_
  show Good p e below _ (s₁.setTop (mkF m 3 #[.val (.ref r0), .val (.ref r1)] [(.int (0 : Int32)), (.ref r1), (.ref r0)]))
  refine Good.back (fun _ k => XS.aloadN X0.here hx rfl (hb hby own_d1_3) rfl rfl k) ?_
  show Good p e below _ (s₁.setTop (mkF m 4 #[.val (.ref r0), .val (.ref r1)] [(.ref r1), (.int (0 : Int32)), (.ref r1), (.ref r0)]))
  have fc1 := VC
  obtain ⟨cl1, Ar1, qk1, S1, N1', H1, G1⟩ := fc1
  refine Good.back (X0.arraylength hx (by rw [e0]; exact Ar1.1) (State.isArrayOf_alike hZ.alike Ar1.2.1) (g := (mkF m 4 #[.val (.ref r0), .val (.ref r1)] [(.ref r1), (.int (0 : Int32)), (.ref r1), (.ref r0)])) rfl rfl (hb hby own_d1_4)) ?_
  rw [len_of S1 N1']
  show Good p e below _ (s₁.setTop (mkF m 5 #[.val (.ref r0), .val (.ref r1)] [(.int (2 : Int32)), (.int (0 : Int32)), (.ref r1), (.ref r0)]))
  refine Good.back (fun _ k => XS.aconstNull X0.here hx rfl (hb hby own_d1_5) k) ?_
  show Good p e below _ (s₁.setTop (mkF m 6 #[.val (.ref r0), .val (.ref r1)] [.null, (.int (2 : Int32)), (.int (0 : Int32)), (.ref r1), (.ref r0)]))
  obtain ⟨_, _, ⟨T2, L2, k2, n2⟩, -, X2, ⟨Lc2, hQ2, l2, y2, z2⟩, st2⟩ := X0.specialBack hx (y := (⟨"java/lang/String", "<init>", "([CIILjava/lang/Void;)V"⟩ : MethodName)) rfl hown (mvT hZ (hw _ (List.mem_of_getElem? (i := 16) rfl))) (mvT hZ (hw _ (List.mem_of_getElem? (i := 17) rfl))) (mvT hZ (hw _ (List.mem_of_getElem? (i := 19) rfl))) (by decide) (backOf (W := 0) (rm2n2 l Z a0 hw [] r0 r1 cs kc c0 c1 h0 n0 Z0 S_cs (by first | assumption | decide) E0 g0 F_value F_coder VC (by first | assumption | decide) (by first | assumption | decide)) hZ (hw _ (List.mem_of_getElem? (i := 19) rfl)) (hw _ (List.mem_of_getElem? (i := 5) rfl)) (by decide) (by decide)) (g := (mkF m 6 #[.val (.ref r0), .val (.ref r1)] [.null, (.int (2 : Int32)), (.int (0 : Int32)), (.ref r1), (.ref r0)])) rfl (by rw [hml]; rfl) (Steps.refl _) (a := r0) (argsL := [(.ref r1), (.int (0 : Int32)), (.int (2 : Int32)), .null]) (rest := []) (lenOf own_pd69 rfl) rfl (by show 2 * 0 + _ ≤ _; exact Nat.le_of_eq rfl) (hb hby own_d1_6) (fun _ _ => ⟨rfl, e0, (by decide : 0 + 1 ≤ _), (by decide : 0 + 2 ≤ _)⟩)
  dsimp only [Pt.U, Pt.locs, Pt.cells, Pt.slots] at X2 l2 y2 z2 st2 hQ2
  subst l2 y2 z2
  obtain ⟨ar_2, kb_2, rfl, N2q, Kq2, o2_0, o2_1, o2_2, o2_3, o2_4⟩ := hQ2
  have N2 := Fr.app N0 N2q
  have Z3 : n0 ≤ T2.heap.size := Nat.le_trans Z0 Kq2.1
  have K4 : Keep h0 T2.heap [r0] := KR.trans Kq2 (allS (Or.inl (List.mem_of_getElem? (i := 0) rfl)) all0)
  have g_ar_2 : n0 ≤ ar_2 := Nat.le_trans Z0 o2_0
  have sz_ar_2 : h0.size ≤ ar_2 := Nat.le_trans KR.1 o2_0
  refine Good.back (fun _ k => st2.trans k) ?_
  show Good p e below _ (T2.setTop (mkF m 9 #[.val (.ref r0), .val (.ref r1)] []))
  obtain ⟨fs5, hr5, hrun5, hended5, hW5, hsame5⟩ := X2.leave (v := none) (fun _ => rfl)
  refine Good.done (X2.returnOut hx Bd.returns (hb hby own_d1_9) hr5) hrun5 hended5 ⟨_, _, rfl, ?_, ⟨_, rfl⟩, hW5, hsame5.mono (by decide) (by decide)⟩
  show Q1n2 Z r0 r1 cs kc c0 c1 h0 n0 _ T2.heap _
  exact ⟨_, _, rfl, N2, K4, sz_ar_2, o2_1, o2_2, o2_3, o2_4⟩
theorem own_d9_0 : decode jdk_42_method_152_code 0 = .ok (.getstatic 38, 3) := by decide +kernel
theorem own_d9_3 : decode jdk_42_method_152_code 3 = .ok (.ifCond .eq 10, 3) := by decide +kernel
theorem own_d9_6 : decode jdk_42_method_152_code 6 = .ok (.aload_n 0, 1) := by decide +kernel
theorem own_d9_7 : decode jdk_42_method_152_code 7 = .ok (.getfield 15, 3) := by decide +kernel
theorem own_d9_10 : decode jdk_42_method_152_code 10 = .ok (.goto 4, 3) := by decide +kernel
theorem own_d9_14 : decode jdk_42_method_152_code 14 = .ok (.ireturn, 1) := by decide +kernel
theorem own_ef_9 (m : MethodId) (x0 : Addr) : entryFrame m #[(.ref x0)] 1 = mkF m 0 #[.val (.ref x0)] [] := by first | (simp [entryFrame, mkF, argsToLocals, Value.category]; done) | rfl
def Q9 (Z : State) (r0 : Addr) (cs : Int32) (h0 : Heap) (n0 : Nat) (v : Option Value) (h : Heap) (L : List Loc) : Prop := v = some (.int 0) ∧ Fr n0 L ∧ h = h0
set_option maxRecDepth 65536 in
set_option maxHeartbeats 40000000 in
theorem rm9 (l : Launch) (Z : State) (a0 : Array Value) (hw : ∀ d ∈ tables_1, d.before a0 Z = true) (ws : List Jvm.Cond) (r0 : Addr) (cs : Int32) (h0 : Heap) (n0 : Nat) (Z0 : n0 ≤ h0.size) (S_cs : Sta Z h0 "java/lang/String" "COMPACT_STRINGS" "Z" (.int cs)) (hcs : ¬ (cs = (0 : Int32))) (F_coder : Fld Z h0 r0 "java/lang/String" "coder" "B" (.int (0 : Int32))) :
    MetFree l (⟨"java/lang/String", "coder", "()B"⟩ : MethodName) (head1 (Jvm.Cond.code (⟨"java/lang/String", "coder", "()B"⟩ : MethodName) jdk_42_method_152_code 1 (some .byte) :: ws) ({ frames := 0, cells := 0, slots := 0, locals := 0 } : Room)) (fun a U => a = #[(.ref r0)] ∧ Z.Warmed39 U.vm ∧ U.heap = h0) (fun _ _ _ _ _ => True) (fun _ U o U' => ∃ v L, o = .returned v ∧ Q9 Z r0 cs h0 n0 v U'.heap L ∧ FrameEnd U o U' L ({ frames := 0, cells := 0, slots := 0, locals := 0 } : Room).cells ({ frames := 0, cells := 0, slots := 0, locals := 0 } : Room).slots) := by
  refine MetFree.of_bodySF (plainFor_of_name own_pn1) hisR ?_
  intro p e s m args below meth c s₁ Bd hml0 hP hK
  obtain ⟨rfl, hZ, hh⟩ := hP
  have hx := Bd.exec
  have hby := Bd.bytes
  have hml : c.maxLocals = 1 := hml0
  have hown : s.vm.findClass "java/lang/String" = some m.cls := findClass_of_methodNamed Bd.named
  have hnm := (name_of_methodNamed Bd.named Bd.method).1
  have X0 : Stand p l e ({ frames := 0, cells := 0, slots := 0, locals := 0 } : Room) s m #[(.ref r0)] below meth c s₁ [] 0 0 := Stand.of_body Bd
  have e0 : s₁.heap = h0 := by rw [← hh, Bd.state]; rfl
  have N0 := Fr.nil n0
  show Good p e below (fun o U' => ∃ v L, o = .returned v ∧ Q9 Z r0 cs h0 n0 v U'.heap L ∧ FrameEnd s o U' L ({ frames := 0, cells := 0, slots := 0, locals := 0 } : Room).cells ({ frames := 0, cells := 0, slots := 0, locals := 0 } : Room).slots) _
  refine Good.back (S' := s₁.setTop (mkF m 0 #[.val (.ref r0)] [])) (fun t k => castTop (own_ef_9 m r0) k) ?_
  show Good p e below _ (s₁.setTop (mkF m 0 #[.val (.ref r0)] []))
  obtain ⟨T1, X1, e1, st1⟩ := getS2 X0 hx hZ hown (host := "") (Or.inl (hw _ (List.mem_of_getElem? (i := 23) rfl))) Via.refl e0 S_cs (g := (mkF m 0 #[.val (.ref r0)] [])) rfl (hb hby own_d9_0)
  refine Good.back st1 ?_
  show Good p e below _ (T1.setTop (mkF m 3 #[.val (.ref r0)] [(.int cs)]))
  refine Good.back (fun _ k => XS.ifNo X1.here hx rfl (hb hby own_d9_3) rfl ((if0 _ _).trans (feq hcs).1) k) ?_
  show Good p e below _ (T1.setTop (mkF m 6 #[.val (.ref r0)] []))
  refine Good.back (fun _ k => XS.aloadN X1.here hx rfl (hb hby own_d9_6) rfl rfl k) ?_
  show Good p e below _ (T1.setTop (mkF m 7 #[.val (.ref r0)] [(.ref r0)]))
  obtain ⟨T2, X2, e2, st2⟩ := getF X1 hx hZ hown (host := "") (Or.inl (hw _ (List.mem_of_getElem? (i := 34) rfl))) Via.refl e1 F_coder (g := (mkF m 7 #[.val (.ref r0)] [(.ref r0)])) rfl rfl (hb hby own_d9_7)
  refine Good.back st2 ?_
  show Good p e below _ (T2.setTop (mkF m 10 #[.val (.ref r0)] [(.int (0 : Int32))]))
  refine Good.back (fun _ k => XS.goto X2.here hx rfl (pc0 := 10) (pc' := 14) rfl (hb hby own_d9_10) (by decide) (by decide) k) ?_
  show Good p e below _ (T2.setTop (mkF m 14 #[.val (.ref r0)] [(.int (0 : Int32))]))
  obtain ⟨fs3, hr3, hrun3, hended3, hW3, hsame3⟩ := X2.leave (v := some (.int (0 : Int32))) (fun h => by rw [Bd.returns] at h; cases h)
  refine Good.done (retN X2 hx (t := .byte) Bd.returns (by simp) (hb hby own_d9_14) hr3) hrun3 hended3 ⟨_, _, rfl, ?_, ⟨_, rfl⟩, hW3, hsame3.mono (by decide) (by decide)⟩
  show Q9 Z r0 cs h0 n0 _ T2.heap _
  rw [e2]
  exact ⟨rfl, N0, rfl⟩
theorem own_pn2 : plainName "java/lang/StringCoding" = true := by first | (simp [plainName, overriddenIn]; done) | decide +kernel
theorem own_d13_0 : decode jdk_123_method_3_code 0 = .ok (.iload_n 1, 1) := by decide +kernel
theorem own_d13_1 : decode jdk_123_method_3_code 1 = .ok (.iload_n 2, 1) := by decide +kernel
theorem own_d13_2 : decode jdk_123_method_3_code 2 = .ok (.iadd, 1) := by decide +kernel
theorem own_d13_3 : decode jdk_123_method_3_code 3 = .ok (.istore_n 3, 1) := by decide +kernel
theorem own_d13_4 : decode jdk_123_method_3_code 4 = .ok (.iload_n 1, 1) := by decide +kernel
theorem own_d13_5 : decode jdk_123_method_3_code 5 = .ok (.istore 4, 2) := by decide +kernel
theorem own_d13_7 : decode jdk_123_method_3_code 7 = .ok (.iload 4, 2) := by decide +kernel
theorem own_d13_9 : decode jdk_123_method_3_code 9 = .ok (.iload_n 3, 1) := by decide +kernel
theorem own_d13_10 : decode jdk_123_method_3_code 10 = .ok (.if_icmp .ge 21, 3) := by decide +kernel
theorem own_d13_13 : decode jdk_123_method_3_code 13 = .ok (.aload_n 0, 1) := by decide +kernel
theorem own_d13_14 : decode jdk_123_method_3_code 14 = .ok (.iload 4, 2) := by decide +kernel
theorem own_d13_16 : decode jdk_123_method_3_code 16 = .ok (.baload, 1) := by decide +kernel
theorem own_d13_17 : decode jdk_123_method_3_code 17 = .ok (.ifCond .ge 8, 3) := by decide +kernel
theorem own_d13_20 : decode jdk_123_method_3_code 20 = .ok (.iload 4, 2) := by decide +kernel
theorem own_d13_22 : decode jdk_123_method_3_code 22 = .ok (.iload_n 1, 1) := by decide +kernel
theorem own_d13_23 : decode jdk_123_method_3_code 23 = .ok (.isub, 1) := by decide +kernel
theorem own_d13_24 : decode jdk_123_method_3_code 24 = .ok (.ireturn, 1) := by decide +kernel
theorem own_ef_13neg (m : MethodId) (x0 : Addr) (x1 : Int32) (x2 : Int32) : entryFrame m #[(.ref x0), (.int x1), (.int x2)] 5 = mkF m 0 #[.val (.ref x0), .val (.int x1), .val (.int x2), .unset, .unset] [] := by first | (simp [entryFrame, mkF, argsToLocals, Value.category]; done) | rfl
def Q13neg (Z : State) (r0 : Addr) (kb : ClassId) (d0 : Int32) (h0 : Heap) (n0 : Nat) (v : Option Value) (h : Heap) (L : List Loc) : Prop := v = some (.int (0 : Int32)) ∧ Fr n0 L ∧ h = h0
set_option maxRecDepth 65536 in
set_option maxHeartbeats 40000000 in
theorem rm13neg (l : Launch) (Z : State) (a0 : Array Value) (hw : ∀ d ∈ tables_1, d.before a0 Z = true) (ws : List Jvm.Cond) (r0 : Addr) (kb : ClassId) (d0 : Int32) (h0 : Heap) (n0 : Nat) (Z0 : n0 ≤ h0.size) (VB : Arv Z h0 r0 kb .byte (1 : Int32) [(.int d0)] (.int (0 : Int32))) (hd : d0 < (0 : Int32)) :
    MetFree l (⟨"java/lang/StringCoding", "countPositives", "([BII)I"⟩ : MethodName) (head1 (Jvm.Cond.code (⟨"java/lang/StringCoding", "countPositives", "([BII)I"⟩ : MethodName) jdk_123_method_3_code 5 (some .int) :: ws) ({ frames := 0, cells := 0, slots := 0, locals := 0 } : Room)) (fun a U => a = #[(.ref r0), (.int (0 : Int32)), (.int (1 : Int32))] ∧ Z.Warmed39 U.vm ∧ U.heap = h0) (fun _ _ _ _ _ => True) (fun _ U o U' => ∃ v L, o = .returned v ∧ Q13neg Z r0 kb d0 h0 n0 v U'.heap L ∧ FrameEnd U o U' L ({ frames := 0, cells := 0, slots := 0, locals := 0 } : Room).cells ({ frames := 0, cells := 0, slots := 0, locals := 0 } : Room).slots) := by
  refine MetFree.of_bodySF (plainFor_of_name own_pn2) hisR ?_
  intro p e s m args below meth c s₁ Bd hml0 hP hK
  obtain ⟨rfl, hZ, hh⟩ := hP
  have hx := Bd.exec
  have hby := Bd.bytes
  have hml : c.maxLocals = 5 := hml0
  have hown : s.vm.findClass "java/lang/StringCoding" = some m.cls := findClass_of_methodNamed Bd.named
  have hnm := (name_of_methodNamed Bd.named Bd.method).1
  have X0 : Stand p l e ({ frames := 0, cells := 0, slots := 0, locals := 0 } : Room) s m #[(.ref r0), (.int (0 : Int32)), (.int (1 : Int32))] below meth c s₁ [] 0 0 := Stand.of_body Bd
  have e0 : s₁.heap = h0 := by rw [← hh, Bd.state]; rfl
  have N0 := Fr.nil n0
  show Good p e below (fun o U' => ∃ v L, o = .returned v ∧ Q13neg Z r0 kb d0 h0 n0 v U'.heap L ∧ FrameEnd s o U' L ({ frames := 0, cells := 0, slots := 0, locals := 0 } : Room).cells ({ frames := 0, cells := 0, slots := 0, locals := 0 } : Room).slots) _
  refine Good.back (S' := s₁.setTop (mkF m 0 #[.val (.ref r0), .val (.int (0 : Int32)), .val (.int (1 : Int32)), .unset, .unset] [])) (fun t k => castTop (own_ef_13neg m r0 (0 : Int32) (1 : Int32)) k) ?_
  show Good p e below _ (s₁.setTop (mkF m 0 #[.val (.ref r0), .val (.int (0 : Int32)), .val (.int (1 : Int32)), .unset, .unset] []))
  refine Good.back (fun _ k => XS.iloadN X0.here hx rfl (hb hby own_d13_0) rfl k) ?_
  show Good p e below _ (s₁.setTop (mkF m 1 #[.val (.ref r0), .val (.int (0 : Int32)), .val (.int (1 : Int32)), .unset, .unset] [(.int (0 : Int32))]))
  refine Good.back (fun _ k => XS.iloadN X0.here hx rfl (hb hby own_d13_1) rfl k) ?_
  show Good p e below _ (s₁.setTop (mkF m 2 #[.val (.ref r0), .val (.int (0 : Int32)), .val (.int (1 : Int32)), .unset, .unset] [(.int (1 : Int32)), (.int (0 : Int32))]))
  refine Good.back (fun _ k => XS.iadd X0.here hx rfl (hb hby own_d13_2) rfl k) ?_
  show Good p e below _ (s₁.setTop (mkF m 3 #[.val (.ref r0), .val (.int (0 : Int32)), .val (.int (1 : Int32)), .unset, .unset] [(.int ((0 : Int32) + (1 : Int32)))]))
  rw [show (((0 : Int32) + (1 : Int32)) : Int32) = (1 : Int32) from by decide]
  show Good p e below _ (s₁.setTop (mkF m 3 #[.val (.ref r0), .val (.int (0 : Int32)), .val (.int (1 : Int32)), .unset, .unset] [(.int (1 : Int32))]))
  refine Good.back (fun _ k => XS.istoreN X0.here hx rfl (hb hby own_d13_3) rfl (l' := #[.val (.ref r0), .val (.int (0 : Int32)), .val (.int (1 : Int32)), .val (.int (1 : Int32)), .unset]) rfl k) ?_
  show Good p e below _ (s₁.setTop (mkF m 4 #[.val (.ref r0), .val (.int (0 : Int32)), .val (.int (1 : Int32)), .val (.int (1 : Int32)), .unset] []))
  refine Good.back (fun _ k => XS.iloadN X0.here hx rfl (hb hby own_d13_4) rfl k) ?_
  show Good p e below _ (s₁.setTop (mkF m 5 #[.val (.ref r0), .val (.int (0 : Int32)), .val (.int (1 : Int32)), .val (.int (1 : Int32)), .unset] [(.int (0 : Int32))]))
  refine Good.back (fun _ k => XS.istore X0.here hx rfl (hb hby own_d13_5) rfl (l' := #[.val (.ref r0), .val (.int (0 : Int32)), .val (.int (1 : Int32)), .val (.int (1 : Int32)), .val (.int (0 : Int32))]) rfl k) ?_
  show Good p e below _ (s₁.setTop (mkF m 7 #[.val (.ref r0), .val (.int (0 : Int32)), .val (.int (1 : Int32)), .val (.int (1 : Int32)), .val (.int (0 : Int32))] []))
  refine Good.back (fun _ k => XS.iload X0.here hx rfl (hb hby own_d13_7) rfl k) ?_
  show Good p e below _ (s₁.setTop (mkF m 9 #[.val (.ref r0), .val (.int (0 : Int32)), .val (.int (1 : Int32)), .val (.int (1 : Int32)), .val (.int (0 : Int32))] [(.int (0 : Int32))]))
  refine Good.back (fun _ k => XS.iloadN X0.here hx rfl (hb hby own_d13_9) rfl k) ?_
  show Good p e below _ (s₁.setTop (mkF m 10 #[.val (.ref r0), .val (.int (0 : Int32)), .val (.int (1 : Int32)), .val (.int (1 : Int32)), .val (.int (0 : Int32))] [(.int (1 : Int32)), (.int (0 : Int32))]))
  refine Good.back (fun _ k => XS.icmpNo X0.here hx rfl (hb hby own_d13_10) rfl (tlt (by decide : ((0 : Int32) < (1 : Int32)))).2.1 k) ?_
  show Good p e below _ (s₁.setTop (mkF m 13 #[.val (.ref r0), .val (.int (0 : Int32)), .val (.int (1 : Int32)), .val (.int (1 : Int32)), .val (.int (0 : Int32))] []))
  refine Good.back (fun _ k => XS.aloadN X0.here hx rfl (hb hby own_d13_13) rfl rfl k) ?_
  show Good p e below _ (s₁.setTop (mkF m 14 #[.val (.ref r0), .val (.int (0 : Int32)), .val (.int (1 : Int32)), .val (.int (1 : Int32)), .val (.int (0 : Int32))] [(.ref r0)]))
  refine Good.back (fun _ k => XS.iload X0.here hx rfl (hb hby own_d13_14) rfl k) ?_
  show Good p e below _ (s₁.setTop (mkF m 16 #[.val (.ref r0), .val (.int (0 : Int32)), .val (.int (1 : Int32)), .val (.int (1 : Int32)), .val (.int (0 : Int32))] [(.int (0 : Int32)), (.ref r0)]))
  have fc1 := VB
  obtain ⟨cl1, Ar1, qk1, S1, N1', H1, G1⟩ := fc1
  have hin1 : ¬ ((0 : Int32) < 0 ∨ cl1.slots.size ≤ ((0 : Int32)).toNatClampNeg) := inb_of S1 ⟨by decide, by decide⟩
  have hat1 : cl1.slots[((0 : Int32)).toNatClampNeg]? = some (.int d0) := Has.at H1 hin1 rfl
  refine Good.back (X0.baloadBytes hx (j := (0 : Int32)) (v := (.int d0)) (by rw [e0]; exact Ar1.1) (State.isArrayOf_alike hZ.alike Ar1.2.1) Ar1.2.2 hin1 hat1 (g := (mkF m 16 #[.val (.ref r0), .val (.int (0 : Int32)), .val (.int (1 : Int32)), .val (.int (1 : Int32)), .val (.int (0 : Int32))] [(.int (0 : Int32)), (.ref r0)])) rfl rfl (hb hby own_d13_16)) ?_
  show Good p e below _ (s₁.setTop (mkF m 17 #[.val (.ref r0), .val (.int (0 : Int32)), .val (.int (1 : Int32)), .val (.int (1 : Int32)), .val (.int (0 : Int32))] [(.int d0)]))
  refine Good.back (fun _ k => XS.ifNo X0.here hx rfl (hb hby own_d13_17) rfl ((if0 _ _).trans (tlt hd).2.1) k) ?_
  show Good p e below _ (s₁.setTop (mkF m 20 #[.val (.ref r0), .val (.int (0 : Int32)), .val (.int (1 : Int32)), .val (.int (1 : Int32)), .val (.int (0 : Int32))] []))
  refine Good.back (fun _ k => XS.iload X0.here hx rfl (hb hby own_d13_20) rfl k) ?_
  show Good p e below _ (s₁.setTop (mkF m 22 #[.val (.ref r0), .val (.int (0 : Int32)), .val (.int (1 : Int32)), .val (.int (1 : Int32)), .val (.int (0 : Int32))] [(.int (0 : Int32))]))
  refine Good.back (fun _ k => XS.iloadN X0.here hx rfl (hb hby own_d13_22) rfl k) ?_
  show Good p e below _ (s₁.setTop (mkF m 23 #[.val (.ref r0), .val (.int (0 : Int32)), .val (.int (1 : Int32)), .val (.int (1 : Int32)), .val (.int (0 : Int32))] [(.int (0 : Int32)), (.int (0 : Int32))]))
  refine Good.back (fun _ k => XS.isub X0.here hx rfl (hb hby own_d13_23) rfl k) ?_
  show Good p e below _ (s₁.setTop (mkF m 24 #[.val (.ref r0), .val (.int (0 : Int32)), .val (.int (1 : Int32)), .val (.int (1 : Int32)), .val (.int (0 : Int32))] [(.int ((0 : Int32) - (0 : Int32)))]))
  rw [show (((0 : Int32) - (0 : Int32)) : Int32) = (0 : Int32) from by decide]
  show Good p e below _ (s₁.setTop (mkF m 24 #[.val (.ref r0), .val (.int (0 : Int32)), .val (.int (1 : Int32)), .val (.int (1 : Int32)), .val (.int (0 : Int32))] [(.int (0 : Int32))]))
  obtain ⟨fs2, hr2, hrun2, hended2, hW2, hsame2⟩ := X0.leave (v := some (.int (0 : Int32))) (fun h => by rw [Bd.returns] at h; cases h)
  refine Good.done (retI X0 hx Bd.returns (hb hby own_d13_24) hr2) hrun2 hended2 ⟨_, _, rfl, ?_, ⟨_, rfl⟩, hW2, hsame2.mono (by decide) (by decide)⟩
  show Q13neg Z r0 kb d0 h0 n0 _ s₁.heap _
  rw [e0]
  exact ⟨rfl, N0, rfl⟩
theorem own_pd101 : parseMethodDescriptor "([BII)I" = some ⟨[(.array .byte), .int, .int], some .int⟩ := by decide +kernel
theorem own_d12_0 : decode jdk_123_method_2_code 0 = .ok (.aload_n 0, 1) := by decide +kernel
theorem own_d12_1 : decode jdk_123_method_2_code 1 = .ok (.iload_n 1, 1) := by decide +kernel
theorem own_d12_2 : decode jdk_123_method_2_code 2 = .ok (.iload_n 2, 1) := by decide +kernel
theorem own_d12_3 : decode jdk_123_method_2_code 3 = .ok (.invokestatic 7, 3) := by decide +kernel
theorem own_d12_6 : decode jdk_123_method_2_code 6 = .ok (.iload_n 2, 1) := by decide +kernel
theorem own_d12_7 : decode jdk_123_method_2_code 7 = .ok (.if_icmp .eq 7, 3) := by decide +kernel
theorem own_d12_10 : decode jdk_123_method_2_code 10 = .ok (.iconst 1, 1) := by decide +kernel
theorem own_d12_11 : decode jdk_123_method_2_code 11 = .ok (.goto 4, 3) := by decide +kernel
theorem own_d12_15 : decode jdk_123_method_2_code 15 = .ok (.ireturn, 1) := by decide +kernel
theorem own_ef_12neg (m : MethodId) (x0 : Addr) (x1 : Int32) (x2 : Int32) : entryFrame m #[(.ref x0), (.int x1), (.int x2)] 3 = mkF m 0 #[.val (.ref x0), .val (.int x1), .val (.int x2)] [] := by first | (simp [entryFrame, mkF, argsToLocals, Value.category]; done) | rfl
def Q12neg (Z : State) (r0 : Addr) (kb : ClassId) (d0 : Int32) (h0 : Heap) (n0 : Nat) (v : Option Value) (h : Heap) (L : List Loc) : Prop := v = some (.int (1 : Int32)) ∧ Fr n0 L ∧ h = h0
set_option maxRecDepth 65536 in
set_option maxHeartbeats 40000000 in
theorem rm12neg (l : Launch) (Z : State) (a0 : Array Value) (hw : ∀ d ∈ tables_1, d.before a0 Z = true) (ws : List Jvm.Cond) (r0 : Addr) (kb : ClassId) (d0 : Int32) (h0 : Heap) (n0 : Nat) (Z0 : n0 ≤ h0.size) (VB : Arv Z h0 r0 kb .byte (1 : Int32) [(.int d0)] (.int (0 : Int32))) (hd : d0 < (0 : Int32)) :
    MetFree l (⟨"java/lang/StringCoding", "hasNegatives", "([BII)Z"⟩ : MethodName) (head1 (Jvm.Cond.code (⟨"java/lang/StringCoding", "hasNegatives", "([BII)Z"⟩ : MethodName) jdk_123_method_2_code 3 (some .boolean) :: ws) ({ frames := 1, cells := 0, slots := 0, locals := 16 } : Room)) (fun a U => a = #[(.ref r0), (.int (0 : Int32)), (.int (1 : Int32))] ∧ Z.Warmed39 U.vm ∧ U.heap = h0) (fun _ _ _ _ _ => True) (fun _ U o U' => ∃ v L, o = .returned v ∧ Q12neg Z r0 kb d0 h0 n0 v U'.heap L ∧ FrameEnd U o U' L ({ frames := 1, cells := 0, slots := 0, locals := 16 } : Room).cells ({ frames := 1, cells := 0, slots := 0, locals := 16 } : Room).slots) := by
  refine MetFree.of_bodySF (plainFor_of_name own_pn2) hisR ?_
  intro p e s m args below meth c s₁ Bd hml0 hP hK
  obtain ⟨rfl, hZ, hh⟩ := hP
  have hx := Bd.exec
  have hby := Bd.bytes
  have hml : c.maxLocals = 3 := hml0
  have hown : s.vm.findClass "java/lang/StringCoding" = some m.cls := findClass_of_methodNamed Bd.named
  have hnm := (name_of_methodNamed Bd.named Bd.method).1
  have X0 : Stand p l e ({ frames := 1, cells := 0, slots := 0, locals := 16 } : Room) s m #[(.ref r0), (.int (0 : Int32)), (.int (1 : Int32))] below meth c s₁ [] 0 0 := Stand.of_body Bd
  have e0 : s₁.heap = h0 := by rw [← hh, Bd.state]; rfl
  have N0 := Fr.nil n0
  show Good p e below (fun o U' => ∃ v L, o = .returned v ∧ Q12neg Z r0 kb d0 h0 n0 v U'.heap L ∧ FrameEnd s o U' L ({ frames := 1, cells := 0, slots := 0, locals := 16 } : Room).cells ({ frames := 1, cells := 0, slots := 0, locals := 16 } : Room).slots) _
  refine Good.back (S' := s₁.setTop (mkF m 0 #[.val (.ref r0), .val (.int (0 : Int32)), .val (.int (1 : Int32))] [])) (fun t k => castTop (own_ef_12neg m r0 (0 : Int32) (1 : Int32)) k) ?_
  show Good p e below _ (s₁.setTop (mkF m 0 #[.val (.ref r0), .val (.int (0 : Int32)), .val (.int (1 : Int32))] []))
  refine Good.back (fun _ k => XS.aloadN X0.here hx rfl (hb hby own_d12_0) rfl rfl k) ?_
  show Good p e below _ (s₁.setTop (mkF m 1 #[.val (.ref r0), .val (.int (0 : Int32)), .val (.int (1 : Int32))] [(.ref r0)]))
  refine Good.back (fun _ k => XS.iloadN X0.here hx rfl (hb hby own_d12_1) rfl k) ?_
  show Good p e below _ (s₁.setTop (mkF m 2 #[.val (.ref r0), .val (.int (0 : Int32)), .val (.int (1 : Int32))] [(.int (0 : Int32)), (.ref r0)]))
  refine Good.back (fun _ k => XS.iloadN X0.here hx rfl (hb hby own_d12_2) rfl k) ?_
  show Good p e below _ (s₁.setTop (mkF m 3 #[.val (.ref r0), .val (.int (0 : Int32)), .val (.int (1 : Int32))] [(.int (1 : Int32)), (.int (0 : Int32)), (.ref r0)]))
  obtain ⟨_, _, ⟨T1, L1, k1, n1⟩, -, X1, ⟨Lc1, hQ1, l1, y1, z1⟩, st1⟩ := Jvm.LawKit.callS X0 hx (y := (⟨"java/lang/StringCoding", "countPositives", "([BII)I"⟩ : MethodName)) hown (mvT hZ (hw _ (List.mem_of_getElem? (i := 68) rfl))) (mvT hZ (hw _ (List.mem_of_getElem? (i := 69) rfl))) (mvT hZ (hw _ (List.mem_of_getElem? (i := 66) rfl))) (mvT hZ (hw _ (List.mem_of_getElem? (i := 70) rfl))) (by decide) (backOf (W := 0) (rm13neg l Z a0 hw [] r0 kb d0 h0 n0 Z0 VB (hd)) hZ (hw _ (List.mem_of_getElem? (i := 70) rfl)) (hw _ (List.mem_of_getElem? (i := 66) rfl)) (by decide) (by decide)) (g := (mkF m 3 #[.val (.ref r0), .val (.int (0 : Int32)), .val (.int (1 : Int32))] [(.int (1 : Int32)), (.int (0 : Int32)), (.ref r0)])) rfl (by rw [hml]; rfl) (argsL := [(.ref r0), (.int (0 : Int32)), (.int (1 : Int32))]) (rest := []) (lenOf own_pd101 rfl) rfl (by show 2 * 0 + _ ≤ _; exact Nat.le_of_eq rfl) (hb hby own_d12_3) (fun _ _ => ⟨rfl, e0, (by decide : 0 + 0 ≤ _), (by decide : 0 + 0 ≤ _)⟩)
  dsimp only [Pt.U, Pt.locs, Pt.cells, Pt.slots] at X1 l1 y1 z1 st1 hQ1
  subst l1 y1 z1
  obtain ⟨rfl, N1q, eh1⟩ := hQ1
  have N1 := Fr.app N0 N1q
  refine Good.back st1 ?_
  show Good p e below _ (T1.setTop (mkF m 6 #[.val (.ref r0), .val (.int (0 : Int32)), .val (.int (1 : Int32))] [(.int (0 : Int32))]))
  refine Good.back (fun _ k => XS.iloadN X1.here hx rfl (hb hby own_d12_6) rfl k) ?_
  show Good p e below _ (T1.setTop (mkF m 7 #[.val (.ref r0), .val (.int (0 : Int32)), .val (.int (1 : Int32))] [(.int (1 : Int32)), (.int (0 : Int32))]))
  refine Good.back (fun _ k => XS.icmpNo X1.here hx rfl (hb hby own_d12_7) rfl (feq (by decide : ¬ ((0 : Int32) = (1 : Int32)))).1 k) ?_
  show Good p e below _ (T1.setTop (mkF m 10 #[.val (.ref r0), .val (.int (0 : Int32)), .val (.int (1 : Int32))] []))
  refine Good.back (fun _ k => XS.iconst X1.here hx rfl (hb hby own_d12_10) k) ?_
  show Good p e below _ (T1.setTop (mkF m 11 #[.val (.ref r0), .val (.int (0 : Int32)), .val (.int (1 : Int32))] [(.int (1 : Int32))]))
  refine Good.back (fun _ k => XS.goto X1.here hx rfl (pc0 := 11) (pc' := 15) rfl (hb hby own_d12_11) (by decide) (by decide) k) ?_
  show Good p e below _ (T1.setTop (mkF m 15 #[.val (.ref r0), .val (.int (0 : Int32)), .val (.int (1 : Int32))] [(.int (1 : Int32))]))
  obtain ⟨fs2, hr2, hrun2, hended2, hW2, hsame2⟩ := X1.leave (v := some (.int (1 : Int32))) (fun h => by rw [Bd.returns] at h; cases h)
  refine Good.done (retN X1 hx (t := .boolean) Bd.returns (by simp) (hb hby own_d12_15) hr2) hrun2 hended2 ⟨_, _, rfl, ?_, ⟨_, rfl⟩, hW2, hsame2.mono (by decide) (by decide)⟩
  show Q12neg Z r0 kb d0 h0 n0 _ T1.heap _
  rw [eh1]
  exact ⟨rfl, N1, rfl⟩
theorem own_d13_25 : decode jdk_123_method_3_code 25 = .ok (.iinc 4 1, 3) := by decide +kernel
theorem own_d13_28 : decode jdk_123_method_3_code 28 = .ok (.goto (-21), 3) := by decide +kernel
theorem own_d13_31 : decode jdk_123_method_3_code 31 = .ok (.iload_n 2, 1) := by decide +kernel
theorem own_d13_32 : decode jdk_123_method_3_code 32 = .ok (.ireturn, 1) := by decide +kernel
theorem own_ef_13pos (m : MethodId) (x0 : Addr) (x1 : Int32) (x2 : Int32) : entryFrame m #[(.ref x0), (.int x1), (.int x2)] 5 = mkF m 0 #[.val (.ref x0), .val (.int x1), .val (.int x2), .unset, .unset] [] := by first | (simp [entryFrame, mkF, argsToLocals, Value.category]; done) | rfl
def Q13pos (Z : State) (r0 : Addr) (kb : ClassId) (d0 : Int32) (h0 : Heap) (n0 : Nat) (v : Option Value) (h : Heap) (L : List Loc) : Prop := v = some (.int (1 : Int32)) ∧ Fr n0 L ∧ h = h0
set_option maxRecDepth 65536 in
set_option maxHeartbeats 40000000 in
theorem rm13pos (l : Launch) (Z : State) (a0 : Array Value) (hw : ∀ d ∈ tables_1, d.before a0 Z = true) (ws : List Jvm.Cond) (r0 : Addr) (kb : ClassId) (d0 : Int32) (h0 : Heap) (n0 : Nat) (Z0 : n0 ≤ h0.size) (VB : Arv Z h0 r0 kb .byte (1 : Int32) [(.int d0)] (.int (0 : Int32))) (hd : ¬ (d0 < (0 : Int32))) :
    MetFree l (⟨"java/lang/StringCoding", "countPositives", "([BII)I"⟩ : MethodName) (head1 (Jvm.Cond.code (⟨"java/lang/StringCoding", "countPositives", "([BII)I"⟩ : MethodName) jdk_123_method_3_code 5 (some .int) :: ws) ({ frames := 0, cells := 0, slots := 0, locals := 0 } : Room)) (fun a U => a = #[(.ref r0), (.int (0 : Int32)), (.int (1 : Int32))] ∧ Z.Warmed39 U.vm ∧ U.heap = h0) (fun _ _ _ _ _ => True) (fun _ U o U' => ∃ v L, o = .returned v ∧ Q13pos Z r0 kb d0 h0 n0 v U'.heap L ∧ FrameEnd U o U' L ({ frames := 0, cells := 0, slots := 0, locals := 0 } : Room).cells ({ frames := 0, cells := 0, slots := 0, locals := 0 } : Room).slots) := by
  refine MetFree.of_bodySF (plainFor_of_name own_pn2) hisR ?_
  intro p e s m args below meth c s₁ Bd hml0 hP hK
  obtain ⟨rfl, hZ, hh⟩ := hP
  have hx := Bd.exec
  have hby := Bd.bytes
  have hml : c.maxLocals = 5 := hml0
  have hown : s.vm.findClass "java/lang/StringCoding" = some m.cls := findClass_of_methodNamed Bd.named
  have hnm := (name_of_methodNamed Bd.named Bd.method).1
  have X0 : Stand p l e ({ frames := 0, cells := 0, slots := 0, locals := 0 } : Room) s m #[(.ref r0), (.int (0 : Int32)), (.int (1 : Int32))] below meth c s₁ [] 0 0 := Stand.of_body Bd
  have e0 : s₁.heap = h0 := by rw [← hh, Bd.state]; rfl
  have N0 := Fr.nil n0
  show Good p e below (fun o U' => ∃ v L, o = .returned v ∧ Q13pos Z r0 kb d0 h0 n0 v U'.heap L ∧ FrameEnd s o U' L ({ frames := 0, cells := 0, slots := 0, locals := 0 } : Room).cells ({ frames := 0, cells := 0, slots := 0, locals := 0 } : Room).slots) _
  refine Good.back (S' := s₁.setTop (mkF m 0 #[.val (.ref r0), .val (.int (0 : Int32)), .val (.int (1 : Int32)), .unset, .unset] [])) (fun t k => castTop (own_ef_13pos m r0 (0 : Int32) (1 : Int32)) k) ?_
  show Good p e below _ (s₁.setTop (mkF m 0 #[.val (.ref r0), .val (.int (0 : Int32)), .val (.int (1 : Int32)), .unset, .unset] []))
  refine Good.back (fun _ k => XS.iloadN X0.here hx rfl (hb hby own_d13_0) rfl k) ?_
  show Good p e below _ (s₁.setTop (mkF m 1 #[.val (.ref r0), .val (.int (0 : Int32)), .val (.int (1 : Int32)), .unset, .unset] [(.int (0 : Int32))]))
  refine Good.back (fun _ k => XS.iloadN X0.here hx rfl (hb hby own_d13_1) rfl k) ?_
  show Good p e below _ (s₁.setTop (mkF m 2 #[.val (.ref r0), .val (.int (0 : Int32)), .val (.int (1 : Int32)), .unset, .unset] [(.int (1 : Int32)), (.int (0 : Int32))]))
  refine Good.back (fun _ k => XS.iadd X0.here hx rfl (hb hby own_d13_2) rfl k) ?_
  show Good p e below _ (s₁.setTop (mkF m 3 #[.val (.ref r0), .val (.int (0 : Int32)), .val (.int (1 : Int32)), .unset, .unset] [(.int ((0 : Int32) + (1 : Int32)))]))
  rw [show (((0 : Int32) + (1 : Int32)) : Int32) = (1 : Int32) from by decide]
  show Good p e below _ (s₁.setTop (mkF m 3 #[.val (.ref r0), .val (.int (0 : Int32)), .val (.int (1 : Int32)), .unset, .unset] [(.int (1 : Int32))]))
  refine Good.back (fun _ k => XS.istoreN X0.here hx rfl (hb hby own_d13_3) rfl (l' := #[.val (.ref r0), .val (.int (0 : Int32)), .val (.int (1 : Int32)), .val (.int (1 : Int32)), .unset]) rfl k) ?_
  show Good p e below _ (s₁.setTop (mkF m 4 #[.val (.ref r0), .val (.int (0 : Int32)), .val (.int (1 : Int32)), .val (.int (1 : Int32)), .unset] []))
  refine Good.back (fun _ k => XS.iloadN X0.here hx rfl (hb hby own_d13_4) rfl k) ?_
  show Good p e below _ (s₁.setTop (mkF m 5 #[.val (.ref r0), .val (.int (0 : Int32)), .val (.int (1 : Int32)), .val (.int (1 : Int32)), .unset] [(.int (0 : Int32))]))
  refine Good.back (fun _ k => XS.istore X0.here hx rfl (hb hby own_d13_5) rfl (l' := #[.val (.ref r0), .val (.int (0 : Int32)), .val (.int (1 : Int32)), .val (.int (1 : Int32)), .val (.int (0 : Int32))]) rfl k) ?_
  show Good p e below _ (s₁.setTop (mkF m 7 #[.val (.ref r0), .val (.int (0 : Int32)), .val (.int (1 : Int32)), .val (.int (1 : Int32)), .val (.int (0 : Int32))] []))
  refine Good.back (fun _ k => XS.iload X0.here hx rfl (hb hby own_d13_7) rfl k) ?_
  show Good p e below _ (s₁.setTop (mkF m 9 #[.val (.ref r0), .val (.int (0 : Int32)), .val (.int (1 : Int32)), .val (.int (1 : Int32)), .val (.int (0 : Int32))] [(.int (0 : Int32))]))
  refine Good.back (fun _ k => XS.iloadN X0.here hx rfl (hb hby own_d13_9) rfl k) ?_
  show Good p e below _ (s₁.setTop (mkF m 10 #[.val (.ref r0), .val (.int (0 : Int32)), .val (.int (1 : Int32)), .val (.int (1 : Int32)), .val (.int (0 : Int32))] [(.int (1 : Int32)), (.int (0 : Int32))]))
  refine Good.back (fun _ k => XS.icmpNo X0.here hx rfl (hb hby own_d13_10) rfl (tlt (by decide : ((0 : Int32) < (1 : Int32)))).2.1 k) ?_
  show Good p e below _ (s₁.setTop (mkF m 13 #[.val (.ref r0), .val (.int (0 : Int32)), .val (.int (1 : Int32)), .val (.int (1 : Int32)), .val (.int (0 : Int32))] []))
  refine Good.back (fun _ k => XS.aloadN X0.here hx rfl (hb hby own_d13_13) rfl rfl k) ?_
  show Good p e below _ (s₁.setTop (mkF m 14 #[.val (.ref r0), .val (.int (0 : Int32)), .val (.int (1 : Int32)), .val (.int (1 : Int32)), .val (.int (0 : Int32))] [(.ref r0)]))
  refine Good.back (fun _ k => XS.iload X0.here hx rfl (hb hby own_d13_14) rfl k) ?_
  show Good p e below _ (s₁.setTop (mkF m 16 #[.val (.ref r0), .val (.int (0 : Int32)), .val (.int (1 : Int32)), .val (.int (1 : Int32)), .val (.int (0 : Int32))] [(.int (0 : Int32)), (.ref r0)]))
  have fc1 := VB
  obtain ⟨cl1, Ar1, qk1, S1, N1', H1, G1⟩ := fc1
  have hin1 : ¬ ((0 : Int32) < 0 ∨ cl1.slots.size ≤ ((0 : Int32)).toNatClampNeg) := inb_of S1 ⟨by decide, by decide⟩
  have hat1 : cl1.slots[((0 : Int32)).toNatClampNeg]? = some (.int d0) := Has.at H1 hin1 rfl
  refine Good.back (X0.baloadBytes hx (j := (0 : Int32)) (v := (.int d0)) (by rw [e0]; exact Ar1.1) (State.isArrayOf_alike hZ.alike Ar1.2.1) Ar1.2.2 hin1 hat1 (g := (mkF m 16 #[.val (.ref r0), .val (.int (0 : Int32)), .val (.int (1 : Int32)), .val (.int (1 : Int32)), .val (.int (0 : Int32))] [(.int (0 : Int32)), (.ref r0)])) rfl rfl (hb hby own_d13_16)) ?_
  show Good p e below _ (s₁.setTop (mkF m 17 #[.val (.ref r0), .val (.int (0 : Int32)), .val (.int (1 : Int32)), .val (.int (1 : Int32)), .val (.int (0 : Int32))] [(.int d0)]))
  refine Good.back (fun _ k => XS.ifYes X0.here hx rfl (pc0 := 17) (pc' := 25) rfl (hb hby own_d13_17) rfl ((if0 _ _).trans (flt hd).2.1) (by decide) (by decide) k) ?_
  show Good p e below _ (s₁.setTop (mkF m 25 #[.val (.ref r0), .val (.int (0 : Int32)), .val (.int (1 : Int32)), .val (.int (1 : Int32)), .val (.int (0 : Int32))] []))
  refine Good.back (fun _ k => XS.iinc X0.here hx rfl (hb hby own_d13_25) rfl (l' := #[.val (.ref r0), .val (.int (0 : Int32)), .val (.int (1 : Int32)), .val (.int (1 : Int32)), .val (.int ((0 : Int32) + (1 : Int32)))]) rfl k) ?_
  show Good p e below _ (s₁.setTop (mkF m 28 #[.val (.ref r0), .val (.int (0 : Int32)), .val (.int (1 : Int32)), .val (.int (1 : Int32)), .val (.int ((0 : Int32) + (1 : Int32)))] []))
  rw [show (((0 : Int32) + (1 : Int32)) : Int32) = (1 : Int32) from by decide]
  show Good p e below _ (s₁.setTop (mkF m 28 #[.val (.ref r0), .val (.int (0 : Int32)), .val (.int (1 : Int32)), .val (.int (1 : Int32)), .val (.int (1 : Int32))] []))
  refine Good.back (fun _ k => XS.goto X0.here hx rfl (pc0 := 28) (pc' := 7) rfl (hb hby own_d13_28) (by decide) (by decide) k) ?_
  show Good p e below _ (s₁.setTop (mkF m 7 #[.val (.ref r0), .val (.int (0 : Int32)), .val (.int (1 : Int32)), .val (.int (1 : Int32)), .val (.int (1 : Int32))] []))
  refine Good.back (fun _ k => XS.iload X0.here hx rfl (hb hby own_d13_7) rfl k) ?_
  show Good p e below _ (s₁.setTop (mkF m 9 #[.val (.ref r0), .val (.int (0 : Int32)), .val (.int (1 : Int32)), .val (.int (1 : Int32)), .val (.int (1 : Int32))] [(.int (1 : Int32))]))
  refine Good.back (fun _ k => XS.iloadN X0.here hx rfl (hb hby own_d13_9) rfl k) ?_
  show Good p e below _ (s₁.setTop (mkF m 10 #[.val (.ref r0), .val (.int (0 : Int32)), .val (.int (1 : Int32)), .val (.int (1 : Int32)), .val (.int (1 : Int32))] [(.int (1 : Int32)), (.int (1 : Int32))]))
  refine Good.back (fun _ k => XS.icmpYes X0.here hx rfl (pc0 := 10) (pc' := 31) rfl (hb hby own_d13_10) rfl (flt (by decide : ¬ ((1 : Int32) < (1 : Int32)))).2.1 (by decide) (by decide) k) ?_
  show Good p e below _ (s₁.setTop (mkF m 31 #[.val (.ref r0), .val (.int (0 : Int32)), .val (.int (1 : Int32)), .val (.int (1 : Int32)), .val (.int (1 : Int32))] []))
  refine Good.back (fun _ k => XS.iloadN X0.here hx rfl (hb hby own_d13_31) rfl k) ?_
  show Good p e below _ (s₁.setTop (mkF m 32 #[.val (.ref r0), .val (.int (0 : Int32)), .val (.int (1 : Int32)), .val (.int (1 : Int32)), .val (.int (1 : Int32))] [(.int (1 : Int32))]))
  obtain ⟨fs2, hr2, hrun2, hended2, hW2, hsame2⟩ := X0.leave (v := some (.int (1 : Int32))) (fun h => by rw [Bd.returns] at h; cases h)
  refine Good.done (retI X0 hx Bd.returns (hb hby own_d13_32) hr2) hrun2 hended2 ⟨_, _, rfl, ?_, ⟨_, rfl⟩, hW2, hsame2.mono (by decide) (by decide)⟩
  show Q13pos Z r0 kb d0 h0 n0 _ s₁.heap _
  rw [e0]
  exact ⟨rfl, N0, rfl⟩
theorem own_d12_14 : decode jdk_123_method_2_code 14 = .ok (.iconst 0, 1) := by decide +kernel
theorem own_ef_12pos (m : MethodId) (x0 : Addr) (x1 : Int32) (x2 : Int32) : entryFrame m #[(.ref x0), (.int x1), (.int x2)] 3 = mkF m 0 #[.val (.ref x0), .val (.int x1), .val (.int x2)] [] := by first | (simp [entryFrame, mkF, argsToLocals, Value.category]; done) | rfl
def Q12pos (Z : State) (r0 : Addr) (kb : ClassId) (d0 : Int32) (h0 : Heap) (n0 : Nat) (v : Option Value) (h : Heap) (L : List Loc) : Prop := v = some (.int (0 : Int32)) ∧ Fr n0 L ∧ h = h0
set_option maxRecDepth 65536 in
set_option maxHeartbeats 40000000 in
theorem rm12pos (l : Launch) (Z : State) (a0 : Array Value) (hw : ∀ d ∈ tables_1, d.before a0 Z = true) (ws : List Jvm.Cond) (r0 : Addr) (kb : ClassId) (d0 : Int32) (h0 : Heap) (n0 : Nat) (Z0 : n0 ≤ h0.size) (VB : Arv Z h0 r0 kb .byte (1 : Int32) [(.int d0)] (.int (0 : Int32))) (hd : ¬ (d0 < (0 : Int32))) :
    MetFree l (⟨"java/lang/StringCoding", "hasNegatives", "([BII)Z"⟩ : MethodName) (head1 (Jvm.Cond.code (⟨"java/lang/StringCoding", "hasNegatives", "([BII)Z"⟩ : MethodName) jdk_123_method_2_code 3 (some .boolean) :: ws) ({ frames := 1, cells := 0, slots := 0, locals := 16 } : Room)) (fun a U => a = #[(.ref r0), (.int (0 : Int32)), (.int (1 : Int32))] ∧ Z.Warmed39 U.vm ∧ U.heap = h0) (fun _ _ _ _ _ => True) (fun _ U o U' => ∃ v L, o = .returned v ∧ Q12pos Z r0 kb d0 h0 n0 v U'.heap L ∧ FrameEnd U o U' L ({ frames := 1, cells := 0, slots := 0, locals := 16 } : Room).cells ({ frames := 1, cells := 0, slots := 0, locals := 16 } : Room).slots) := by
  refine MetFree.of_bodySF (plainFor_of_name own_pn2) hisR ?_
  intro p e s m args below meth c s₁ Bd hml0 hP hK
  obtain ⟨rfl, hZ, hh⟩ := hP
  have hx := Bd.exec
  have hby := Bd.bytes
  have hml : c.maxLocals = 3 := hml0
  have hown : s.vm.findClass "java/lang/StringCoding" = some m.cls := findClass_of_methodNamed Bd.named
  have hnm := (name_of_methodNamed Bd.named Bd.method).1
  have X0 : Stand p l e ({ frames := 1, cells := 0, slots := 0, locals := 16 } : Room) s m #[(.ref r0), (.int (0 : Int32)), (.int (1 : Int32))] below meth c s₁ [] 0 0 := Stand.of_body Bd
  have e0 : s₁.heap = h0 := by rw [← hh, Bd.state]; rfl
  have N0 := Fr.nil n0
  show Good p e below (fun o U' => ∃ v L, o = .returned v ∧ Q12pos Z r0 kb d0 h0 n0 v U'.heap L ∧ FrameEnd s o U' L ({ frames := 1, cells := 0, slots := 0, locals := 16 } : Room).cells ({ frames := 1, cells := 0, slots := 0, locals := 16 } : Room).slots) _
  refine Good.back (S' := s₁.setTop (mkF m 0 #[.val (.ref r0), .val (.int (0 : Int32)), .val (.int (1 : Int32))] [])) (fun t k => castTop (own_ef_12pos m r0 (0 : Int32) (1 : Int32)) k) ?_
  show Good p e below _ (s₁.setTop (mkF m 0 #[.val (.ref r0), .val (.int (0 : Int32)), .val (.int (1 : Int32))] []))
  refine Good.back (fun _ k => XS.aloadN X0.here hx rfl (hb hby own_d12_0) rfl rfl k) ?_
  show Good p e below _ (s₁.setTop (mkF m 1 #[.val (.ref r0), .val (.int (0 : Int32)), .val (.int (1 : Int32))] [(.ref r0)]))
  refine Good.back (fun _ k => XS.iloadN X0.here hx rfl (hb hby own_d12_1) rfl k) ?_
  show Good p e below _ (s₁.setTop (mkF m 2 #[.val (.ref r0), .val (.int (0 : Int32)), .val (.int (1 : Int32))] [(.int (0 : Int32)), (.ref r0)]))
  refine Good.back (fun _ k => XS.iloadN X0.here hx rfl (hb hby own_d12_2) rfl k) ?_
  show Good p e below _ (s₁.setTop (mkF m 3 #[.val (.ref r0), .val (.int (0 : Int32)), .val (.int (1 : Int32))] [(.int (1 : Int32)), (.int (0 : Int32)), (.ref r0)]))
  obtain ⟨_, _, ⟨T1, L1, k1, n1⟩, -, X1, ⟨Lc1, hQ1, l1, y1, z1⟩, st1⟩ := Jvm.LawKit.callS X0 hx (y := (⟨"java/lang/StringCoding", "countPositives", "([BII)I"⟩ : MethodName)) hown (mvT hZ (hw _ (List.mem_of_getElem? (i := 68) rfl))) (mvT hZ (hw _ (List.mem_of_getElem? (i := 69) rfl))) (mvT hZ (hw _ (List.mem_of_getElem? (i := 66) rfl))) (mvT hZ (hw _ (List.mem_of_getElem? (i := 70) rfl))) (by decide) (backOf (W := 0) (rm13pos l Z a0 hw [] r0 kb d0 h0 n0 Z0 VB (hd)) hZ (hw _ (List.mem_of_getElem? (i := 70) rfl)) (hw _ (List.mem_of_getElem? (i := 66) rfl)) (by decide) (by decide)) (g := (mkF m 3 #[.val (.ref r0), .val (.int (0 : Int32)), .val (.int (1 : Int32))] [(.int (1 : Int32)), (.int (0 : Int32)), (.ref r0)])) rfl (by rw [hml]; rfl) (argsL := [(.ref r0), (.int (0 : Int32)), (.int (1 : Int32))]) (rest := []) (lenOf own_pd101 rfl) rfl (by show 2 * 0 + _ ≤ _; exact Nat.le_of_eq rfl) (hb hby own_d12_3) (fun _ _ => ⟨rfl, e0, (by decide : 0 + 0 ≤ _), (by decide : 0 + 0 ≤ _)⟩)
  dsimp only [Pt.U, Pt.locs, Pt.cells, Pt.slots] at X1 l1 y1 z1 st1 hQ1
  subst l1 y1 z1
  obtain ⟨rfl, N1q, eh1⟩ := hQ1
  have N1 := Fr.app N0 N1q
  refine Good.back st1 ?_
  show Good p e below _ (T1.setTop (mkF m 6 #[.val (.ref r0), .val (.int (0 : Int32)), .val (.int (1 : Int32))] [(.int (1 : Int32))]))
  refine Good.back (fun _ k => XS.iloadN X1.here hx rfl (hb hby own_d12_6) rfl k) ?_
  show Good p e below _ (T1.setTop (mkF m 7 #[.val (.ref r0), .val (.int (0 : Int32)), .val (.int (1 : Int32))] [(.int (1 : Int32)), (.int (1 : Int32))]))
  refine Good.back (fun _ k => XS.icmpYes X1.here hx rfl (pc0 := 7) (pc' := 14) rfl (hb hby own_d12_7) rfl (teq (by decide : ((1 : Int32) = (1 : Int32)))).1 (by decide) (by decide) k) ?_
  show Good p e below _ (T1.setTop (mkF m 14 #[.val (.ref r0), .val (.int (0 : Int32)), .val (.int (1 : Int32))] []))
  refine Good.back (fun _ k => XS.iconst X1.here hx rfl (hb hby own_d12_14) k) ?_
  show Good p e below _ (T1.setTop (mkF m 15 #[.val (.ref r0), .val (.int (0 : Int32)), .val (.int (1 : Int32))] [(.int (0 : Int32))]))
  obtain ⟨fs2, hr2, hrun2, hended2, hW2, hsame2⟩ := X1.leave (v := some (.int (0 : Int32))) (fun h => by rw [Bd.returns] at h; cases h)
  refine Good.done (retN X1 hx (t := .boolean) Bd.returns (by simp) (hb hby own_d12_15) hr2) hrun2 hended2 ⟨_, _, rfl, ?_, ⟨_, rfl⟩, hW2, hsame2.mono (by decide) (by decide)⟩
  show Q12pos Z r0 kb d0 h0 n0 _ T1.heap _
  rw [eh1]
  exact ⟨rfl, N1, rfl⟩
theorem own_d26_0 : decode jdk_52_method_3_code 0 = .ok (.iload_n 0, 1) := by decide +kernel
theorem own_d26_1 : decode jdk_52_method_3_code 1 = .ok (.ifCond .ge 11, 3) := by decide +kernel
theorem own_d26_12 : decode jdk_52_method_3_code 12 = .ok (.iload_n 0, 1) := by decide +kernel
theorem own_d26_13 : decode jdk_52_method_3_code 13 = .ok (.ldc 20, 2) := by decide +kernel
theorem own_d26_15 : decode jdk_52_method_3_code 15 = .ok (.if_icmp .lt 40, 3) := by decide +kernel
theorem own_d26_55 : decode jdk_52_method_3_code 55 = .ok (.iload_n 0, 1) := by decide +kernel
theorem own_d26_56 : decode jdk_52_method_3_code 56 = .ok (.iconst 1, 1) := by decide +kernel
theorem own_d26_57 : decode jdk_52_method_3_code 57 = .ok (.ishl, 1) := by decide +kernel
theorem own_d26_58 : decode jdk_52_method_3_code 58 = .ok (.ireturn, 1) := by decide +kernel
theorem own_ef_26 (m : MethodId) (x0 : Int32) : entryFrame m #[(.int x0)] 1 = mkF m 0 #[.val (.int x0)] [] := by first | (simp [entryFrame, mkF, argsToLocals, Value.category]; done) | rfl
def Q26 (Z : State)  (h0 : Heap) (n0 : Nat) (v : Option Value) (h : Heap) (L : List Loc) : Prop := v = some (.int 2) ∧ Fr n0 L ∧ h = h0
set_option maxRecDepth 65536 in
set_option maxHeartbeats 40000000 in
theorem rm26 (l : Launch) (Z : State) (a0 : Array Value) (hw : ∀ d ∈ tables_1, d.before a0 Z = true) (ws : List Jvm.Cond)  (h0 : Heap) (n0 : Nat) (Z0 : n0 ≤ h0.size)  :
    MetFree l (⟨"java/lang/StringUTF16", "newBytesLength", "(I)I"⟩ : MethodName) (head1 (Jvm.Cond.code (⟨"java/lang/StringUTF16", "newBytesLength", "(I)I"⟩ : MethodName) jdk_52_method_3_code 1 (some .int) :: ws) ({ frames := 0, cells := 0, slots := 0, locals := 0 } : Room)) (fun a U => a = #[(.int (1 : Int32))] ∧ Z.Warmed39 U.vm ∧ U.heap = h0) (fun _ _ _ _ _ => True) (fun _ U o U' => ∃ v L, o = .returned v ∧ Q26 Z  h0 n0 v U'.heap L ∧ FrameEnd U o U' L ({ frames := 0, cells := 0, slots := 0, locals := 0 } : Room).cells ({ frames := 0, cells := 0, slots := 0, locals := 0 } : Room).slots) := by
  refine MetFree.of_bodySF (plainFor_of_name own_pn0) hisR ?_
  intro p e s m args below meth c s₁ Bd hml0 hP hK
  obtain ⟨rfl, hZ, hh⟩ := hP
  have hx := Bd.exec
  have hby := Bd.bytes
  have hml : c.maxLocals = 1 := hml0
  have hown : s.vm.findClass "java/lang/StringUTF16" = some m.cls := findClass_of_methodNamed Bd.named
  have hnm := (name_of_methodNamed Bd.named Bd.method).1
  have X0 : Stand p l e ({ frames := 0, cells := 0, slots := 0, locals := 0 } : Room) s m #[(.int (1 : Int32))] below meth c s₁ [] 0 0 := Stand.of_body Bd
  have e0 : s₁.heap = h0 := by rw [← hh, Bd.state]; rfl
  have N0 := Fr.nil n0
  show Good p e below (fun o U' => ∃ v L, o = .returned v ∧ Q26 Z  h0 n0 v U'.heap L ∧ FrameEnd s o U' L ({ frames := 0, cells := 0, slots := 0, locals := 0 } : Room).cells ({ frames := 0, cells := 0, slots := 0, locals := 0 } : Room).slots) _
  refine Good.back (S' := s₁.setTop (mkF m 0 #[.val (.int (1 : Int32))] [])) (fun t k => castTop (own_ef_26 m (1 : Int32)) k) ?_
  show Good p e below _ (s₁.setTop (mkF m 0 #[.val (.int (1 : Int32))] []))
  refine Good.back (fun _ k => XS.iloadN X0.here hx rfl (hb hby own_d26_0) rfl k) ?_
  show Good p e below _ (s₁.setTop (mkF m 1 #[.val (.int (1 : Int32))] [(.int (1 : Int32))]))
  refine Good.back (fun _ k => XS.ifYes X0.here hx rfl (pc0 := 1) (pc' := 12) rfl (hb hby own_d26_1) rfl ((if0 _ _).trans (flt (by decide : ¬ ((1 : Int32) < (0 : Int32)))).2.1) (by decide) (by decide) k) ?_
  show Good p e below _ (s₁.setTop (mkF m 12 #[.val (.int (1 : Int32))] []))
  refine Good.back (fun _ k => XS.iloadN X0.here hx rfl (hb hby own_d26_12) rfl k) ?_
  show Good p e below _ (s₁.setTop (mkF m 13 #[.val (.int (1 : Int32))] [(.int (1 : Int32))]))
  refine Good.back (X0.ldcInt hx hown (mvT hZ (hw _ (List.mem_of_getElem? (i := 157) rfl))) (g := (mkF m 13 #[.val (.int (1 : Int32))] [(.int (1 : Int32))])) rfl (hb hby own_d26_13)) ?_
  show Good p e below _ (s₁.setTop (mkF m 15 #[.val (.int (1 : Int32))] [(.int (1073741823 : Int32)), (.int (1 : Int32))]))
  refine Good.back (fun _ k => XS.icmpYes X0.here hx rfl (pc0 := 15) (pc' := 55) rfl (hb hby own_d26_15) rfl (tlt (by decide : ((1 : Int32) < (1073741823 : Int32)))).1 (by decide) (by decide) k) ?_
  show Good p e below _ (s₁.setTop (mkF m 55 #[.val (.int (1 : Int32))] []))
  refine Good.back (fun _ k => XS.iloadN X0.here hx rfl (hb hby own_d26_55) rfl k) ?_
  show Good p e below _ (s₁.setTop (mkF m 56 #[.val (.int (1 : Int32))] [(.int (1 : Int32))]))
  refine Good.back (fun _ k => XS.iconst X0.here hx rfl (hb hby own_d26_56) k) ?_
  show Good p e below _ (s₁.setTop (mkF m 57 #[.val (.int (1 : Int32))] [(.int (1 : Int32)), (.int (1 : Int32))]))
  refine Good.back (fun _ k => XS.ishl X0.here hx rfl (hb hby own_d26_57) rfl k) ?_
  show Good p e below _ (s₁.setTop (mkF m 58 #[.val (.int (1 : Int32))] [(.int ((1 : Int32) <<< ((1 : Int32) &&& 31)))]))
  rw [show (((1 : Int32) <<< ((1 : Int32) &&& 31)) : Int32) = (2 : Int32) from by decide]
  show Good p e below _ (s₁.setTop (mkF m 58 #[.val (.int (1 : Int32))] [(.int (2 : Int32))]))
  obtain ⟨fs1, hr1, hrun1, hended1, hW1, hsame1⟩ := X0.leave (v := some (.int (2 : Int32))) (fun h => by rw [Bd.returns] at h; cases h)
  refine Good.done (retI X0 hx Bd.returns (hb hby own_d26_58) hr1) hrun1 hended1 ⟨_, _, rfl, ?_, ⟨_, rfl⟩, hW1, hsame1.mono (by decide) (by decide)⟩
  show Q26 Z  h0 n0 _ s₁.heap _
  rw [e0]
  exact ⟨rfl, N0, rfl⟩
theorem own_pd125 : parseMethodDescriptor "(I)I" = some ⟨[.int], some .int⟩ := by decide +kernel
theorem own_d25_0 : decode jdk_52_method_2_code 0 = .ok (.iload_n 0, 1) := by decide +kernel
theorem own_d25_1 : decode jdk_52_method_2_code 1 = .ok (.invokestatic 11, 3) := by decide +kernel
theorem own_d25_4 : decode jdk_52_method_2_code 4 = .ok (.newarray .byte, 2) := by decide +kernel
theorem own_d25_6 : decode jdk_52_method_2_code 6 = .ok (.areturn, 1) := by decide +kernel
theorem own_ef_25 (m : MethodId) (x0 : Int32) : entryFrame m #[(.int x0)] 1 = mkF m 0 #[.val (.int x0)] [] := by first | (simp [entryFrame, mkF, argsToLocals, Value.category]; done) | rfl
def Q25 (Z : State)  (h0 : Heap) (n0 : Nat) (v : Option Value) (h : Heap) (L : List Loc) : Prop := ∃ (ar : Addr) (kb : ClassId), v = some (.ref ar) ∧ Fr n0 L ∧ Keep h0 h [] ∧ h0.size ≤ ar ∧ Arv Z h ar kb .byte (2 : Int32) [(.int (0 : Int32)), (.int (0 : Int32))] (.int (0 : Int32))
set_option maxRecDepth 65536 in
set_option maxHeartbeats 40000000 in
theorem rm25 (l : Launch) (Z : State) (a0 : Array Value) (hw : ∀ d ∈ tables_1, d.before a0 Z = true) (ws : List Jvm.Cond)  (h0 : Heap) (n0 : Nat) (Z0 : n0 ≤ h0.size)  :
    MetFree l (⟨"java/lang/StringUTF16", "newBytesFor", "(I)[B"⟩ : MethodName) (head1 (Jvm.Cond.code (⟨"java/lang/StringUTF16", "newBytesFor", "(I)[B"⟩ : MethodName) jdk_52_method_2_code 1 (some (.array .byte)) :: ws) ({ frames := 1, cells := 1, slots := 2, locals := 12 } : Room)) (fun a U => a = #[(.int (1 : Int32))] ∧ Z.Warmed39 U.vm ∧ U.heap = h0) (fun _ _ _ _ _ => True) (fun _ U o U' => ∃ v L, o = .returned v ∧ Q25 Z  h0 n0 v U'.heap L ∧ FrameEnd U o U' L ({ frames := 1, cells := 1, slots := 2, locals := 12 } : Room).cells ({ frames := 1, cells := 1, slots := 2, locals := 12 } : Room).slots) := by
  refine MetFree.of_bodySF (plainFor_of_name own_pn0) hisR ?_
  intro p e s m args below meth c s₁ Bd hml0 hP hK
  obtain ⟨rfl, hZ, hh⟩ := hP
  have hx := Bd.exec
  have hby := Bd.bytes
  have hml : c.maxLocals = 1 := hml0
  have hown : s.vm.findClass "java/lang/StringUTF16" = some m.cls := findClass_of_methodNamed Bd.named
  have hnm := (name_of_methodNamed Bd.named Bd.method).1
  have X0 : Stand p l e ({ frames := 1, cells := 1, slots := 2, locals := 12 } : Room) s m #[(.int (1 : Int32))] below meth c s₁ [] 0 0 := Stand.of_body Bd
  have e0 : s₁.heap = h0 := by rw [← hh, Bd.state]; rfl
  have N0 := Fr.nil n0
  have KR : Keep h0 h0 [] := Keep.refl h0 _
  show Good p e below (fun o U' => ∃ v L, o = .returned v ∧ Q25 Z  h0 n0 v U'.heap L ∧ FrameEnd s o U' L ({ frames := 1, cells := 1, slots := 2, locals := 12 } : Room).cells ({ frames := 1, cells := 1, slots := 2, locals := 12 } : Room).slots) _
  refine Good.back (S' := s₁.setTop (mkF m 0 #[.val (.int (1 : Int32))] [])) (fun t k => castTop (own_ef_25 m (1 : Int32)) k) ?_
  show Good p e below _ (s₁.setTop (mkF m 0 #[.val (.int (1 : Int32))] []))
  refine Good.back (fun _ k => XS.iloadN X0.here hx rfl (hb hby own_d25_0) rfl k) ?_
  show Good p e below _ (s₁.setTop (mkF m 1 #[.val (.int (1 : Int32))] [(.int (1 : Int32))]))
  obtain ⟨_, _, ⟨T1, L1, k1, n1⟩, -, X1, ⟨Lc1, hQ1, l1, y1, z1⟩, st1⟩ := Jvm.LawKit.callS X0 hx (y := (⟨"java/lang/StringUTF16", "newBytesLength", "(I)I"⟩ : MethodName)) hown (mvT hZ (hw _ (List.mem_of_getElem? (i := 154) rfl))) (mvT hZ (hw _ (List.mem_of_getElem? (i := 155) rfl))) (mvT hZ (hw _ (List.mem_of_getElem? (i := 26) rfl))) (mvT hZ (hw _ (List.mem_of_getElem? (i := 156) rfl))) (by decide) (backOf (W := 0) (rm26 l Z a0 hw []   h0 n0 Z0 ) hZ (hw _ (List.mem_of_getElem? (i := 156) rfl)) (hw _ (List.mem_of_getElem? (i := 26) rfl)) (by decide) (by decide)) (g := (mkF m 1 #[.val (.int (1 : Int32))] [(.int (1 : Int32))])) rfl (by rw [hml]; rfl) (argsL := [(.int (1 : Int32))]) (rest := []) (lenOf own_pd125 rfl) rfl (by show 2 * 0 + _ ≤ _; exact Nat.le_of_eq rfl) (hb hby own_d25_1) (fun _ _ => ⟨rfl, e0, (by decide : 0 + 0 ≤ _), (by decide : 0 + 0 ≤ _)⟩)
  dsimp only [Pt.U, Pt.locs, Pt.cells, Pt.slots] at X1 l1 y1 z1 st1 hQ1
  subst l1 y1 z1
  obtain ⟨rfl, N1q, eh1⟩ := hQ1
  have N1 := Fr.app N0 N1q
  refine Good.back st1 ?_
  show Good p e below _ (T1.setTop (mkF m 4 #[.val (.int (1 : Int32))] [(.int (2 : Int32))]))
  obtain ⟨T2, h2, k2, X2, e2, E2, A2, st2⟩ := newP X1 hx hZ (hw _ (List.mem_of_getElem? (i := 7) rfl)) eh1 (g := (mkF m 4 #[.val (.int (1 : Int32))] [(.int (2 : Int32))])) rfl (hb hby own_d25_4) rfl (by decide) (cap := 2) (by decide) (by decide) (by decide) (by decide)
  obtain ⟨b2, g2⟩ : ∃ z, z = h0.size := ⟨_, rfl⟩
  rw [← g2] at A2 st2
  refine Good.back st2 ?_
  have g_b2 : n0 ≤ b2 := Nat.le_trans Z0 (Nat.le_of_eq g2.symm)
  have sz_b2 : h0.size ≤ b2 := Nat.le_trans KR.1 (Nat.le_of_eq g2.symm)
  have Z3 : n0 ≤ h2.size := Nat.le_trans Z0 E2.1
  have K4 : Keep h0 h2 [] := KR.ext E2
  have f_5 : Arv Z h2 b2 k2 .byte (2 : Int32) [(.int (0 : Int32)), (.int (0 : Int32))] (.int (0 : Int32)) := (Arv.new A2 (by decide)).pad (pad_rep [] (.int (0 : Int32)) 2)
  show Good p e below _ (T2.setTop (mkF m 6 #[.val (.int (1 : Int32))] [(.ref b2)]))
  obtain ⟨fs6, hr6, hrun6, hended6, hW6, hsame6⟩ := X2.leave (v := some (.ref b2)) (fun h => by rw [Bd.returns] at h; cases h)
  refine Good.done (retOut X2 hx Bd.returns rfl (Or.inr (Or.inr (Or.inr (Or.inr ⟨rfl, rfl, rfl⟩)))) (hb hby own_d25_6) hr6) hrun6 hended6 ⟨_, _, rfl, ?_, ⟨_, rfl⟩, hW6, hsame6.mono (by decide) (by decide)⟩
  show Q25 Z  h0 n0 _ T2.heap _
  rw [e2]
  exact ⟨_, _, rfl, N1, K4, sz_b2, f_5⟩
theorem own_pd130 : parseMethodDescriptor "([BII)Z" = some ⟨[(.array .byte), .int, .int], some .boolean⟩ := by decide +kernel
theorem own_pd131 : parseMethodDescriptor "(I)[B" = some ⟨[.int], some (.array .byte)⟩ := by decide +kernel
theorem own_d11_0 : decode jdk_42_method_46_code 0 = .ok (.iload_n 0, 1) := by decide +kernel
theorem own_d11_1 : decode jdk_42_method_46_code 1 = .ok (.iconst 1, 1) := by decide +kernel
theorem own_d11_2 : decode jdk_42_method_46_code 2 = .ok (.if_icmp .ne 9, 3) := by decide +kernel
theorem own_d11_11 : decode jdk_42_method_46_code 11 = .ok (.aload_n 1, 1) := by decide +kernel
theorem own_d11_12 : decode jdk_42_method_46_code 12 = .ok (.iconst 0, 1) := by decide +kernel
theorem own_d11_13 : decode jdk_42_method_46_code 13 = .ok (.aload_n 1, 1) := by decide +kernel
theorem own_d11_14 : decode jdk_42_method_46_code 14 = .ok (.arraylength, 1) := by decide +kernel
theorem own_d11_15 : decode jdk_42_method_46_code 15 = .ok (.invokestatic 128, 3) := by decide +kernel
theorem own_d11_18 : decode jdk_42_method_46_code 18 = .ok (.ifCond .ne 11, 3) := by decide +kernel
theorem own_d11_21 : decode jdk_42_method_46_code 21 = .ok (.aload_n 1, 1) := by decide +kernel
theorem own_d11_22 : decode jdk_42_method_46_code 22 = .ok (.invokevirtual 279, 3) := by decide +kernel
theorem own_d11_25 : decode jdk_42_method_46_code 25 = .ok (.checkcast 280, 3) := by decide +kernel
theorem own_d11_28 : decode jdk_42_method_46_code 28 = .ok (.areturn, 1) := by decide +kernel
theorem own_d11_29 : decode jdk_42_method_46_code 29 = .ok (.iconst 0, 1) := by decide +kernel
theorem own_d11_30 : decode jdk_42_method_46_code 30 = .ok (.istore_n 3, 1) := by decide +kernel
theorem own_d11_31 : decode jdk_42_method_46_code 31 = .ok (.aload_n 1, 1) := by decide +kernel
theorem own_d11_32 : decode jdk_42_method_46_code 32 = .ok (.arraylength, 1) := by decide +kernel
theorem own_d11_33 : decode jdk_42_method_46_code 33 = .ok (.invokestatic 60, 3) := by decide +kernel
theorem own_d11_36 : decode jdk_42_method_46_code 36 = .ok (.astore 4, 2) := by decide +kernel
theorem own_d11_38 : decode jdk_42_method_46_code 38 = .ok (.aload_n 1, 1) := by decide +kernel
theorem own_d11_39 : decode jdk_42_method_46_code 39 = .ok (.astore 5, 2) := by decide +kernel
theorem own_d11_41 : decode jdk_42_method_46_code 41 = .ok (.aload 5, 2) := by decide +kernel
theorem own_d11_43 : decode jdk_42_method_46_code 43 = .ok (.arraylength, 1) := by decide +kernel
theorem own_d11_44 : decode jdk_42_method_46_code 44 = .ok (.istore 6, 2) := by decide +kernel
theorem own_d11_46 : decode jdk_42_method_46_code 46 = .ok (.iconst 0, 1) := by decide +kernel
theorem own_d11_47 : decode jdk_42_method_46_code 47 = .ok (.istore 7, 2) := by decide +kernel
theorem own_d11_49 : decode jdk_42_method_46_code 49 = .ok (.iload 7, 2) := by decide +kernel
theorem own_d11_51 : decode jdk_42_method_46_code 51 = .ok (.iload 6, 2) := by decide +kernel
theorem own_d11_53 : decode jdk_42_method_46_code 53 = .ok (.if_icmp .ge 71, 3) := by decide +kernel
theorem own_d11_56 : decode jdk_42_method_46_code 56 = .ok (.aload 5, 2) := by decide +kernel
theorem own_d11_58 : decode jdk_42_method_46_code 58 = .ok (.iload 7, 2) := by decide +kernel
theorem own_d11_60 : decode jdk_42_method_46_code 60 = .ok (.baload, 1) := by decide +kernel
theorem own_d11_61 : decode jdk_42_method_46_code 61 = .ok (.istore 8, 2) := by decide +kernel
theorem own_d11_63 : decode jdk_42_method_46_code 63 = .ok (.iload 8, 2) := by decide +kernel
theorem own_d11_65 : decode jdk_42_method_46_code 65 = .ok (.ifCond .ge 44, 3) := by decide +kernel
theorem own_d11_68 : decode jdk_42_method_46_code 68 = .ok (.aload 4, 2) := by decide +kernel
theorem own_d11_70 : decode jdk_42_method_46_code 70 = .ok (.iload_n 3, 1) := by decide +kernel
theorem own_d11_71 : decode jdk_42_method_46_code 71 = .ok (.iinc 3 1, 3) := by decide +kernel
theorem own_d11_74 : decode jdk_42_method_46_code 74 = .ok (.sipush 192, 3) := by decide +kernel
theorem own_d11_77 : decode jdk_42_method_46_code 77 = .ok (.iload 8, 2) := by decide +kernel
theorem own_d11_79 : decode jdk_42_method_46_code 79 = .ok (.sipush 255, 3) := by decide +kernel
theorem own_d11_82 : decode jdk_42_method_46_code 82 = .ok (.iand, 1) := by decide +kernel
theorem own_d11_83 : decode jdk_42_method_46_code 83 = .ok (.bipush 6, 2) := by decide +kernel
theorem own_d11_85 : decode jdk_42_method_46_code 85 = .ok (.ishr, 1) := by decide +kernel
theorem own_d11_86 : decode jdk_42_method_46_code 86 = .ok (.ior, 1) := by decide +kernel
theorem own_d11_87 : decode jdk_42_method_46_code 87 = .ok (.i2b, 1) := by decide +kernel
theorem own_d11_88 : decode jdk_42_method_46_code 88 = .ok (.bastore, 1) := by decide +kernel
theorem own_d11_89 : decode jdk_42_method_46_code 89 = .ok (.aload 4, 2) := by decide +kernel
theorem own_d11_91 : decode jdk_42_method_46_code 91 = .ok (.iload_n 3, 1) := by decide +kernel
theorem own_d11_92 : decode jdk_42_method_46_code 92 = .ok (.iinc 3 1, 3) := by decide +kernel
theorem own_d11_95 : decode jdk_42_method_46_code 95 = .ok (.sipush 128, 3) := by decide +kernel
theorem own_d11_98 : decode jdk_42_method_46_code 98 = .ok (.iload 8, 2) := by decide +kernel
theorem own_d11_100 : decode jdk_42_method_46_code 100 = .ok (.bipush 63, 2) := by decide +kernel
theorem own_d11_102 : decode jdk_42_method_46_code 102 = .ok (.iand, 1) := by decide +kernel
theorem own_d11_103 : decode jdk_42_method_46_code 103 = .ok (.ior, 1) := by decide +kernel
theorem own_d11_104 : decode jdk_42_method_46_code 104 = .ok (.i2b, 1) := by decide +kernel
theorem own_d11_105 : decode jdk_42_method_46_code 105 = .ok (.bastore, 1) := by decide +kernel
theorem own_d11_106 : decode jdk_42_method_46_code 106 = .ok (.goto 12, 3) := by decide +kernel
theorem own_d11_118 : decode jdk_42_method_46_code 118 = .ok (.iinc 7 1, 3) := by decide +kernel
theorem own_d11_121 : decode jdk_42_method_46_code 121 = .ok (.goto (-72), 3) := by decide +kernel
theorem own_d11_124 : decode jdk_42_method_46_code 124 = .ok (.iload_n 3, 1) := by decide +kernel
theorem own_d11_125 : decode jdk_42_method_46_code 125 = .ok (.aload 4, 2) := by decide +kernel
theorem own_d11_127 : decode jdk_42_method_46_code 127 = .ok (.arraylength, 1) := by decide +kernel
theorem own_d11_128 : decode jdk_42_method_46_code 128 = .ok (.if_icmp .ne 6, 3) := by decide +kernel
theorem own_d11_131 : decode jdk_42_method_46_code 131 = .ok (.aload 4, 2) := by decide +kernel
theorem own_d11_133 : decode jdk_42_method_46_code 133 = .ok (.areturn, 1) := by decide +kernel
theorem own_ef_11 (m : MethodId) (x0 : Int32) (x1 : Addr) (x2 : Int32) : entryFrame m #[(.int x0), (.ref x1), (.int x2)] 9 = mkF m 0 #[.val (.int x0), .val (.ref x1), .val (.int x2), .unset, .unset, .unset, .unset, .unset, .unset] [] := by first | (simp [entryFrame, mkF, argsToLocals, Value.category]; done) | rfl
def Q11 (Z : State) (r1 : Addr) (kb : ClassId) (d0 : Int32) (h0 : Heap) (n0 : Nat) (v : Option Value) (h : Heap) (L : List Loc) : Prop := ∃ (ar : Addr), v = some (.ref ar) ∧ Fr n0 L ∧ Keep h0 h []
set_option maxRecDepth 65536 in
set_option maxHeartbeats 40000000 in
theorem rm11 (l : Launch) (Z : State) (a0 : Array Value) (hw : ∀ d ∈ tables_1, d.before a0 Z = true) (ws : List Jvm.Cond) (r1 : Addr) (kb : ClassId) (d0 : Int32) (h0 : Heap) (n0 : Nat) (Z0 : n0 ≤ h0.size) (VB : Arv Z h0 r1 kb .byte (1 : Int32) [(.int d0)] (.int (0 : Int32))) (EB : Exa Z h0 r1 "[B") :
    MetFree l (⟨"java/lang/String", "encodeUTF8", "(B[BZ)[B"⟩ : MethodName) (head1 (Jvm.Cond.code (⟨"java/lang/String", "encodeUTF8", "(B[BZ)[B"⟩ : MethodName) jdk_42_method_46_code 9 (some (.array .byte)) :: ws) ({ frames := 2, cells := 1, slots := 2, locals := 30 } : Room)) (fun a U => a = #[(.int (0 : Int32)), (.ref r1), (.int (1 : Int32))] ∧ Z.Warmed39 U.vm ∧ U.heap = h0) (fun _ _ _ _ _ => True) (fun _ U o U' => ∃ v L, o = .returned v ∧ Q11 Z r1 kb d0 h0 n0 v U'.heap L ∧ FrameEnd U o U' L ({ frames := 2, cells := 1, slots := 2, locals := 30 } : Room).cells ({ frames := 2, cells := 1, slots := 2, locals := 30 } : Room).slots) := by
  refine MetFree.of_bodySF (plainFor_of_name own_pn1) hisR ?_
  intro p e s m args below meth c s₁ Bd hml0 hP hK
  obtain ⟨rfl, hZ, hh⟩ := hP
  have hx := Bd.exec
  have hby := Bd.bytes
  have hml : c.maxLocals = 9 := hml0
  have hown : s.vm.findClass "java/lang/String" = some m.cls := findClass_of_methodNamed Bd.named
  have hnm := (name_of_methodNamed Bd.named Bd.method).1
  have X0 : Stand p l e ({ frames := 2, cells := 1, slots := 2, locals := 30 } : Room) s m #[(.int (0 : Int32)), (.ref r1), (.int (1 : Int32))] below meth c s₁ [] 0 0 := Stand.of_body Bd
  have e0 : s₁.heap = h0 := by rw [← hh, Bd.state]; rfl
  have N0 := Fr.nil n0
  have KR : Keep h0 h0 [] := Keep.refl h0 _
  show Good p e below (fun o U' => ∃ v L, o = .returned v ∧ Q11 Z r1 kb d0 h0 n0 v U'.heap L ∧ FrameEnd s o U' L ({ frames := 2, cells := 1, slots := 2, locals := 30 } : Room).cells ({ frames := 2, cells := 1, slots := 2, locals := 30 } : Room).slots) _
  refine Good.back (S' := s₁.setTop (mkF m 0 #[.val (.int (0 : Int32)), .val (.ref r1), .val (.int (1 : Int32)), .unset, .unset, .unset, .unset, .unset, .unset] [])) (fun t k => castTop (own_ef_11 m (0 : Int32) r1 (1 : Int32)) k) ?_
  show Good p e below _ (s₁.setTop (mkF m 0 #[.val (.int (0 : Int32)), .val (.ref r1), .val (.int (1 : Int32)), .unset, .unset, .unset, .unset, .unset, .unset] []))
  by_cases hd : d0 < (0 : Int32)
  · show Good p e below _ (s₁.setTop (mkF m 0 #[.val (.int (0 : Int32)), .val (.ref r1), .val (.int (1 : Int32)), .unset, .unset, .unset, .unset, .unset, .unset] []))
    refine Good.back (fun _ k => XS.iloadN X0.here hx rfl (hb hby own_d11_0) rfl k) ?_
    show Good p e below _ (s₁.setTop (mkF m 1 #[.val (.int (0 : Int32)), .val (.ref r1), .val (.int (1 : Int32)), .unset, .unset, .unset, .unset, .unset, .unset] [(.int (0 : Int32))]))
    refine Good.back (fun _ k => XS.iconst X0.here hx rfl (hb hby own_d11_1) k) ?_
    show Good p e below _ (s₁.setTop (mkF m 2 #[.val (.int (0 : Int32)), .val (.ref r1), .val (.int (1 : Int32)), .unset, .unset, .unset, .unset, .unset, .unset] [(.int (1 : Int32)), (.int (0 : Int32))]))
    refine Good.back (fun _ k => XS.icmpYes X0.here hx rfl (pc0 := 2) (pc' := 11) rfl (hb hby own_d11_2) rfl (feq (by decide : ¬ ((0 : Int32) = (1 : Int32)))).2 (by decide) (by decide) k) ?_
    show Good p e below _ (s₁.setTop (mkF m 11 #[.val (.int (0 : Int32)), .val (.ref r1), .val (.int (1 : Int32)), .unset, .unset, .unset, .unset, .unset, .unset] []))
    refine Good.back (fun _ k => XS.aloadN X0.here hx rfl (hb hby own_d11_11) rfl rfl k) ?_
    show Good p e below _ (s₁.setTop (mkF m 12 #[.val (.int (0 : Int32)), .val (.ref r1), .val (.int (1 : Int32)), .unset, .unset, .unset, .unset, .unset, .unset] [(.ref r1)]))
    refine Good.back (fun _ k => XS.iconst X0.here hx rfl (hb hby own_d11_12) k) ?_
    show Good p e below _ (s₁.setTop (mkF m 13 #[.val (.int (0 : Int32)), .val (.ref r1), .val (.int (1 : Int32)), .unset, .unset, .unset, .unset, .unset, .unset] [(.int (0 : Int32)), (.ref r1)]))
    refine Good.back (fun _ k => XS.aloadN X0.here hx rfl (hb hby own_d11_13) rfl rfl k) ?_
    show Good p e below _ (s₁.setTop (mkF m 14 #[.val (.int (0 : Int32)), .val (.ref r1), .val (.int (1 : Int32)), .unset, .unset, .unset, .unset, .unset, .unset] [(.ref r1), (.int (0 : Int32)), (.ref r1)]))
    have fc1 := VB
    obtain ⟨cl1, Ar1, qk1, S1, N1', H1, G1⟩ := fc1
    refine Good.back (X0.arraylength hx (by rw [e0]; exact Ar1.1) (State.isArrayOf_alike hZ.alike Ar1.2.1) (g := (mkF m 14 #[.val (.int (0 : Int32)), .val (.ref r1), .val (.int (1 : Int32)), .unset, .unset, .unset, .unset, .unset, .unset] [(.ref r1), (.int (0 : Int32)), (.ref r1)])) rfl rfl (hb hby own_d11_14)) ?_
    rw [len_of S1 N1']
    show Good p e below _ (s₁.setTop (mkF m 15 #[.val (.int (0 : Int32)), .val (.ref r1), .val (.int (1 : Int32)), .unset, .unset, .unset, .unset, .unset, .unset] [(.int (1 : Int32)), (.int (0 : Int32)), (.ref r1)]))
    obtain ⟨_, _, ⟨T2, L2, k2, n2⟩, -, X2, ⟨Lc2, hQ2, l2, y2, z2⟩, st2⟩ := Jvm.LawKit.callS X0 hx (y := (⟨"java/lang/StringCoding", "hasNegatives", "([BII)Z"⟩ : MethodName)) hown (mvT hZ (hw _ (List.mem_of_getElem? (i := 64) rfl))) (mvT hZ (hw _ (List.mem_of_getElem? (i := 65) rfl))) (mvT hZ (hw _ (List.mem_of_getElem? (i := 66) rfl))) (mvT hZ (hw _ (List.mem_of_getElem? (i := 67) rfl))) (by decide) (backOf (W := 0) (rm12neg l Z a0 hw [] r1 kb d0 h0 n0 Z0 VB (hd)) hZ (hw _ (List.mem_of_getElem? (i := 67) rfl)) (hw _ (List.mem_of_getElem? (i := 66) rfl)) (by decide) (by decide)) (g := (mkF m 15 #[.val (.int (0 : Int32)), .val (.ref r1), .val (.int (1 : Int32)), .unset, .unset, .unset, .unset, .unset, .unset] [(.int (1 : Int32)), (.int (0 : Int32)), (.ref r1)])) rfl (by rw [hml]; rfl) (argsL := [(.ref r1), (.int (0 : Int32)), (.int (1 : Int32))]) (rest := []) (lenOf own_pd130 rfl) rfl (by show 2 * 0 + _ ≤ _; exact Nat.le_of_eq rfl) (hb hby own_d11_15) (fun _ _ => ⟨rfl, e0, (by decide : 0 + 0 ≤ _), (by decide : 0 + 0 ≤ _)⟩)
    dsimp only [Pt.U, Pt.locs, Pt.cells, Pt.slots] at X2 l2 y2 z2 st2 hQ2
    subst l2 y2 z2
    obtain ⟨rfl, N2q, eh2⟩ := hQ2
    have N2 := Fr.app N0 N2q
    refine Good.back st2 ?_
    show Good p e below _ (T2.setTop (mkF m 18 #[.val (.int (0 : Int32)), .val (.ref r1), .val (.int (1 : Int32)), .unset, .unset, .unset, .unset, .unset, .unset] [(.int (1 : Int32))]))
    refine Good.back (fun _ k => XS.ifYes X2.here hx rfl (pc0 := 18) (pc' := 29) rfl (hb hby own_d11_18) rfl ((if0 _ _).trans (feq (by decide : ¬ ((1 : Int32) = (0 : Int32)))).2) (by decide) (by decide) k) ?_
    show Good p e below _ (T2.setTop (mkF m 29 #[.val (.int (0 : Int32)), .val (.ref r1), .val (.int (1 : Int32)), .unset, .unset, .unset, .unset, .unset, .unset] []))
    refine Good.back (fun _ k => XS.iconst X2.here hx rfl (hb hby own_d11_29) k) ?_
    show Good p e below _ (T2.setTop (mkF m 30 #[.val (.int (0 : Int32)), .val (.ref r1), .val (.int (1 : Int32)), .unset, .unset, .unset, .unset, .unset, .unset] [(.int (0 : Int32))]))
    refine Good.back (fun _ k => XS.istoreN X2.here hx rfl (hb hby own_d11_30) rfl (l' := #[.val (.int (0 : Int32)), .val (.ref r1), .val (.int (1 : Int32)), .val (.int (0 : Int32)), .unset, .unset, .unset, .unset, .unset]) rfl k) ?_
    show Good p e below _ (T2.setTop (mkF m 31 #[.val (.int (0 : Int32)), .val (.ref r1), .val (.int (1 : Int32)), .val (.int (0 : Int32)), .unset, .unset, .unset, .unset, .unset] []))
    refine Good.back (fun _ k => XS.aloadN X2.here hx rfl (hb hby own_d11_31) rfl rfl k) ?_
    show Good p e below _ (T2.setTop (mkF m 32 #[.val (.int (0 : Int32)), .val (.ref r1), .val (.int (1 : Int32)), .val (.int (0 : Int32)), .unset, .unset, .unset, .unset, .unset] [(.ref r1)]))
    have fc3 := VB
    obtain ⟨cl3, Ar3, qk3, S3, N3', H3, G3⟩ := fc3
    refine Good.back (X2.arraylength hx (by rw [eh2]; exact Ar3.1) (State.isArrayOf_alike hZ.alike Ar3.2.1) (g := (mkF m 32 #[.val (.int (0 : Int32)), .val (.ref r1), .val (.int (1 : Int32)), .val (.int (0 : Int32)), .unset, .unset, .unset, .unset, .unset] [(.ref r1)])) rfl rfl (hb hby own_d11_32)) ?_
    rw [len_of S3 N3']
    show Good p e below _ (T2.setTop (mkF m 33 #[.val (.int (0 : Int32)), .val (.ref r1), .val (.int (1 : Int32)), .val (.int (0 : Int32)), .unset, .unset, .unset, .unset, .unset] [(.int (1 : Int32))]))
    obtain ⟨_, _, ⟨T4, L4, k4, n4⟩, -, X4, ⟨Lc4, hQ4, l4, y4, z4⟩, st4⟩ := Jvm.LawKit.callS X2 hx (y := (⟨"java/lang/StringUTF16", "newBytesFor", "(I)[B"⟩ : MethodName)) hown (mvT hZ (hw _ (List.mem_of_getElem? (i := 151) rfl))) (mvT hZ (hw _ (List.mem_of_getElem? (i := 152) rfl))) (mvT hZ (hw _ (List.mem_of_getElem? (i := 26) rfl))) (mvT hZ (hw _ (List.mem_of_getElem? (i := 153) rfl))) (by decide) (backOf (W := 0) (rm25 l Z a0 hw []   h0 n0 Z0 ) hZ (hw _ (List.mem_of_getElem? (i := 153) rfl)) (hw _ (List.mem_of_getElem? (i := 26) rfl)) (by decide) (by decide)) (g := (mkF m 33 #[.val (.int (0 : Int32)), .val (.ref r1), .val (.int (1 : Int32)), .val (.int (0 : Int32)), .unset, .unset, .unset, .unset, .unset] [(.int (1 : Int32))])) rfl (by rw [hml]; rfl) (argsL := [(.int (1 : Int32))]) (rest := []) (lenOf own_pd131 rfl) rfl (by show 2 * 0 + _ ≤ _; exact Nat.le_of_eq rfl) (hb hby own_d11_33) (fun _ _ => ⟨rfl, eh2, (by decide : 0 + 1 ≤ _), (by decide : 0 + 2 ≤ _)⟩)
    dsimp only [Pt.U, Pt.locs, Pt.cells, Pt.slots] at X4 l4 y4 z4 st4 hQ4
    subst l4 y4 z4
    obtain ⟨ar_4, kb_4, rfl, N4q, Kq4, o4_0, o4_1⟩ := hQ4
    have N4 := Fr.app N2 N4q
    have Z5 : n0 ≤ T4.heap.size := Nat.le_trans Z0 Kq4.1
    have K6 : Keep h0 T4.heap [] := KR.trans Kq4 all0
    have g_ar_4 : n0 ≤ ar_4 := Nat.le_trans Z0 o4_0
    have sz_ar_4 : h0.size ≤ ar_4 := Nat.le_trans KR.1 o4_0
    refine Good.back st4 ?_
    show Good p e below _ (T4.setTop (mkF m 36 #[.val (.int (0 : Int32)), .val (.ref r1), .val (.int (1 : Int32)), .val (.int (0 : Int32)), .unset, .unset, .unset, .unset, .unset] [(.ref ar_4)]))
    refine Good.back (fun _ k => XS.astore X4.here hx rfl (hb hby own_d11_36) rfl rfl (l' := #[.val (.int (0 : Int32)), .val (.ref r1), .val (.int (1 : Int32)), .val (.int (0 : Int32)), .val (.ref ar_4), .unset, .unset, .unset, .unset]) rfl k) ?_
    show Good p e below _ (T4.setTop (mkF m 38 #[.val (.int (0 : Int32)), .val (.ref r1), .val (.int (1 : Int32)), .val (.int (0 : Int32)), .val (.ref ar_4), .unset, .unset, .unset, .unset] []))
    refine Good.back (fun _ k => XS.aloadN X4.here hx rfl (hb hby own_d11_38) rfl rfl k) ?_
    show Good p e below _ (T4.setTop (mkF m 39 #[.val (.int (0 : Int32)), .val (.ref r1), .val (.int (1 : Int32)), .val (.int (0 : Int32)), .val (.ref ar_4), .unset, .unset, .unset, .unset] [(.ref r1)]))
    refine Good.back (fun _ k => XS.astore X4.here hx rfl (hb hby own_d11_39) rfl rfl (l' := #[.val (.int (0 : Int32)), .val (.ref r1), .val (.int (1 : Int32)), .val (.int (0 : Int32)), .val (.ref ar_4), .val (.ref r1), .unset, .unset, .unset]) rfl k) ?_
    show Good p e below _ (T4.setTop (mkF m 41 #[.val (.int (0 : Int32)), .val (.ref r1), .val (.int (1 : Int32)), .val (.int (0 : Int32)), .val (.ref ar_4), .val (.ref r1), .unset, .unset, .unset] []))
    refine Good.back (fun _ k => XS.aload X4.here hx rfl (hb hby own_d11_41) rfl rfl k) ?_
    show Good p e below _ (T4.setTop (mkF m 43 #[.val (.int (0 : Int32)), .val (.ref r1), .val (.int (1 : Int32)), .val (.int (0 : Int32)), .val (.ref ar_4), .val (.ref r1), .unset, .unset, .unset] [(.ref r1)]))
    have f_7 : Arv Z T4.heap r1 kb .byte (1 : Int32) [(.int d0)] (.int (0 : Int32)) := Arv.keep VB Kq4 nin0
    have fc8 := f_7
    obtain ⟨cl8, Ar8, qk8, S8, N8', H8, G8⟩ := fc8
    refine Good.back (X4.arraylength hx (Ar8.1) (State.isArrayOf_alike hZ.alike Ar8.2.1) (g := (mkF m 43 #[.val (.int (0 : Int32)), .val (.ref r1), .val (.int (1 : Int32)), .val (.int (0 : Int32)), .val (.ref ar_4), .val (.ref r1), .unset, .unset, .unset] [(.ref r1)])) rfl rfl (hb hby own_d11_43)) ?_
    rw [len_of S8 N8']
    show Good p e below _ (T4.setTop (mkF m 44 #[.val (.int (0 : Int32)), .val (.ref r1), .val (.int (1 : Int32)), .val (.int (0 : Int32)), .val (.ref ar_4), .val (.ref r1), .unset, .unset, .unset] [(.int (1 : Int32))]))
    refine Good.back (fun _ k => XS.istore X4.here hx rfl (hb hby own_d11_44) rfl (l' := #[.val (.int (0 : Int32)), .val (.ref r1), .val (.int (1 : Int32)), .val (.int (0 : Int32)), .val (.ref ar_4), .val (.ref r1), .val (.int (1 : Int32)), .unset, .unset]) rfl k) ?_
    show Good p e below _ (T4.setTop (mkF m 46 #[.val (.int (0 : Int32)), .val (.ref r1), .val (.int (1 : Int32)), .val (.int (0 : Int32)), .val (.ref ar_4), .val (.ref r1), .val (.int (1 : Int32)), .unset, .unset] []))
    refine Good.back (fun _ k => XS.iconst X4.here hx rfl (hb hby own_d11_46) k) ?_
    show Good p e below _ (T4.setTop (mkF m 47 #[.val (.int (0 : Int32)), .val (.ref r1), .val (.int (1 : Int32)), .val (.int (0 : Int32)), .val (.ref ar_4), .val (.ref r1), .val (.int (1 : Int32)), .unset, .unset] [(.int (0 : Int32))]))
    refine Good.back (fun _ k => XS.istore X4.here hx rfl (hb hby own_d11_47) rfl (l' := #[.val (.int (0 : Int32)), .val (.ref r1), .val (.int (1 : Int32)), .val (.int (0 : Int32)), .val (.ref ar_4), .val (.ref r1), .val (.int (1 : Int32)), .val (.int (0 : Int32)), .unset]) rfl k) ?_
    show Good p e below _ (T4.setTop (mkF m 49 #[.val (.int (0 : Int32)), .val (.ref r1), .val (.int (1 : Int32)), .val (.int (0 : Int32)), .val (.ref ar_4), .val (.ref r1), .val (.int (1 : Int32)), .val (.int (0 : Int32)), .unset] []))
    refine Good.back (fun _ k => XS.iload X4.here hx rfl (hb hby own_d11_49) rfl k) ?_
    show Good p e below _ (T4.setTop (mkF m 51 #[.val (.int (0 : Int32)), .val (.ref r1), .val (.int (1 : Int32)), .val (.int (0 : Int32)), .val (.ref ar_4), .val (.ref r1), .val (.int (1 : Int32)), .val (.int (0 : Int32)), .unset] [(.int (0 : Int32))]))
    refine Good.back (fun _ k => XS.iload X4.here hx rfl (hb hby own_d11_51) rfl k) ?_
    show Good p e below _ (T4.setTop (mkF m 53 #[.val (.int (0 : Int32)), .val (.ref r1), .val (.int (1 : Int32)), .val (.int (0 : Int32)), .val (.ref ar_4), .val (.ref r1), .val (.int (1 : Int32)), .val (.int (0 : Int32)), .unset] [(.int (1 : Int32)), (.int (0 : Int32))]))
    refine Good.back (fun _ k => XS.icmpNo X4.here hx rfl (hb hby own_d11_53) rfl (tlt (by decide : ((0 : Int32) < (1 : Int32)))).2.1 k) ?_
    show Good p e below _ (T4.setTop (mkF m 56 #[.val (.int (0 : Int32)), .val (.ref r1), .val (.int (1 : Int32)), .val (.int (0 : Int32)), .val (.ref ar_4), .val (.ref r1), .val (.int (1 : Int32)), .val (.int (0 : Int32)), .unset] []))
    refine Good.back (fun _ k => XS.aload X4.here hx rfl (hb hby own_d11_56) rfl rfl k) ?_
    show Good p e below _ (T4.setTop (mkF m 58 #[.val (.int (0 : Int32)), .val (.ref r1), .val (.int (1 : Int32)), .val (.int (0 : Int32)), .val (.ref ar_4), .val (.ref r1), .val (.int (1 : Int32)), .val (.int (0 : Int32)), .unset] [(.ref r1)]))
    refine Good.back (fun _ k => XS.iload X4.here hx rfl (hb hby own_d11_58) rfl k) ?_
    show Good p e below _ (T4.setTop (mkF m 60 #[.val (.int (0 : Int32)), .val (.ref r1), .val (.int (1 : Int32)), .val (.int (0 : Int32)), .val (.ref ar_4), .val (.ref r1), .val (.int (1 : Int32)), .val (.int (0 : Int32)), .unset] [(.int (0 : Int32)), (.ref r1)]))
    have fc9 := f_7
    obtain ⟨cl9, Ar9, qk9, S9, N9', H9, G9⟩ := fc9
    have hin9 : ¬ ((0 : Int32) < 0 ∨ cl9.slots.size ≤ ((0 : Int32)).toNatClampNeg) := inb_of S9 ⟨by decide, by decide⟩
    have hat9 : cl9.slots[((0 : Int32)).toNatClampNeg]? = some (.int d0) := Has.at H9 hin9 rfl
    refine Good.back (X4.baloadBytes hx (j := (0 : Int32)) (v := (.int d0)) (Ar9.1) (State.isArrayOf_alike hZ.alike Ar9.2.1) Ar9.2.2 hin9 hat9 (g := (mkF m 60 #[.val (.int (0 : Int32)), .val (.ref r1), .val (.int (1 : Int32)), .val (.int (0 : Int32)), .val (.ref ar_4), .val (.ref r1), .val (.int (1 : Int32)), .val (.int (0 : Int32)), .unset] [(.int (0 : Int32)), (.ref r1)])) rfl rfl (hb hby own_d11_60)) ?_
    show Good p e below _ (T4.setTop (mkF m 61 #[.val (.int (0 : Int32)), .val (.ref r1), .val (.int (1 : Int32)), .val (.int (0 : Int32)), .val (.ref ar_4), .val (.ref r1), .val (.int (1 : Int32)), .val (.int (0 : Int32)), .unset] [(.int d0)]))
    refine Good.back (fun _ k => XS.istore X4.here hx rfl (hb hby own_d11_61) rfl (l' := #[.val (.int (0 : Int32)), .val (.ref r1), .val (.int (1 : Int32)), .val (.int (0 : Int32)), .val (.ref ar_4), .val (.ref r1), .val (.int (1 : Int32)), .val (.int (0 : Int32)), .val (.int d0)]) rfl k) ?_
    show Good p e below _ (T4.setTop (mkF m 63 #[.val (.int (0 : Int32)), .val (.ref r1), .val (.int (1 : Int32)), .val (.int (0 : Int32)), .val (.ref ar_4), .val (.ref r1), .val (.int (1 : Int32)), .val (.int (0 : Int32)), .val (.int d0)] []))
    refine Good.back (fun _ k => XS.iload X4.here hx rfl (hb hby own_d11_63) rfl k) ?_
    show Good p e below _ (T4.setTop (mkF m 65 #[.val (.int (0 : Int32)), .val (.ref r1), .val (.int (1 : Int32)), .val (.int (0 : Int32)), .val (.ref ar_4), .val (.ref r1), .val (.int (1 : Int32)), .val (.int (0 : Int32)), .val (.int d0)] [(.int d0)]))
    refine Good.back (fun _ k => XS.ifNo X4.here hx rfl (hb hby own_d11_65) rfl ((if0 _ _).trans (tlt hd).2.1) k) ?_
    show Good p e below _ (T4.setTop (mkF m 68 #[.val (.int (0 : Int32)), .val (.ref r1), .val (.int (1 : Int32)), .val (.int (0 : Int32)), .val (.ref ar_4), .val (.ref r1), .val (.int (1 : Int32)), .val (.int (0 : Int32)), .val (.int d0)] []))
    refine Good.back (fun _ k => XS.aload X4.here hx rfl (hb hby own_d11_68) rfl rfl k) ?_
    show Good p e below _ (T4.setTop (mkF m 70 #[.val (.int (0 : Int32)), .val (.ref r1), .val (.int (1 : Int32)), .val (.int (0 : Int32)), .val (.ref ar_4), .val (.ref r1), .val (.int (1 : Int32)), .val (.int (0 : Int32)), .val (.int d0)] [(.ref ar_4)]))
    refine Good.back (fun _ k => XS.iloadN X4.here hx rfl (hb hby own_d11_70) rfl k) ?_
    show Good p e below _ (T4.setTop (mkF m 71 #[.val (.int (0 : Int32)), .val (.ref r1), .val (.int (1 : Int32)), .val (.int (0 : Int32)), .val (.ref ar_4), .val (.ref r1), .val (.int (1 : Int32)), .val (.int (0 : Int32)), .val (.int d0)] [(.int (0 : Int32)), (.ref ar_4)]))
    refine Good.back (fun _ k => XS.iinc X4.here hx rfl (hb hby own_d11_71) rfl (l' := #[.val (.int (0 : Int32)), .val (.ref r1), .val (.int (1 : Int32)), .val (.int ((0 : Int32) + (1 : Int32))), .val (.ref ar_4), .val (.ref r1), .val (.int (1 : Int32)), .val (.int (0 : Int32)), .val (.int d0)]) rfl k) ?_
    show Good p e below _ (T4.setTop (mkF m 74 #[.val (.int (0 : Int32)), .val (.ref r1), .val (.int (1 : Int32)), .val (.int ((0 : Int32) + (1 : Int32))), .val (.ref ar_4), .val (.ref r1), .val (.int (1 : Int32)), .val (.int (0 : Int32)), .val (.int d0)] [(.int (0 : Int32)), (.ref ar_4)]))
    rw [show (((0 : Int32) + (1 : Int32)) : Int32) = (1 : Int32) from by decide]
    show Good p e below _ (T4.setTop (mkF m 74 #[.val (.int (0 : Int32)), .val (.ref r1), .val (.int (1 : Int32)), .val (.int (1 : Int32)), .val (.ref ar_4), .val (.ref r1), .val (.int (1 : Int32)), .val (.int (0 : Int32)), .val (.int d0)] [(.int (0 : Int32)), (.ref ar_4)]))
    refine Good.back (fun _ k => XS.sipush X4.here hx rfl (hb hby own_d11_74) k) ?_
    show Good p e below _ (T4.setTop (mkF m 77 #[.val (.int (0 : Int32)), .val (.ref r1), .val (.int (1 : Int32)), .val (.int (1 : Int32)), .val (.ref ar_4), .val (.ref r1), .val (.int (1 : Int32)), .val (.int (0 : Int32)), .val (.int d0)] [(.int (192 : Int32)), (.int (0 : Int32)), (.ref ar_4)]))
    refine Good.back (fun _ k => XS.iload X4.here hx rfl (hb hby own_d11_77) rfl k) ?_
    show Good p e below _ (T4.setTop (mkF m 79 #[.val (.int (0 : Int32)), .val (.ref r1), .val (.int (1 : Int32)), .val (.int (1 : Int32)), .val (.ref ar_4), .val (.ref r1), .val (.int (1 : Int32)), .val (.int (0 : Int32)), .val (.int d0)] [(.int d0), (.int (192 : Int32)), (.int (0 : Int32)), (.ref ar_4)]))
    refine Good.back (fun _ k => XS.sipush X4.here hx rfl (hb hby own_d11_79) k) ?_
    show Good p e below _ (T4.setTop (mkF m 82 #[.val (.int (0 : Int32)), .val (.ref r1), .val (.int (1 : Int32)), .val (.int (1 : Int32)), .val (.ref ar_4), .val (.ref r1), .val (.int (1 : Int32)), .val (.int (0 : Int32)), .val (.int d0)] [(.int (255 : Int32)), (.int d0), (.int (192 : Int32)), (.int (0 : Int32)), (.ref ar_4)]))
    refine Good.back (fun _ k => XS.iand X4.here hx rfl (hb hby own_d11_82) rfl k) ?_
    show Good p e below _ (T4.setTop (mkF m 83 #[.val (.int (0 : Int32)), .val (.ref r1), .val (.int (1 : Int32)), .val (.int (1 : Int32)), .val (.ref ar_4), .val (.ref r1), .val (.int (1 : Int32)), .val (.int (0 : Int32)), .val (.int d0)] [(.int (d0 &&& (255 : Int32))), (.int (192 : Int32)), (.int (0 : Int32)), (.ref ar_4)]))
    refine Good.back (fun _ k => XS.bipush X4.here hx rfl (hb hby own_d11_83) k) ?_
    show Good p e below _ (T4.setTop (mkF m 85 #[.val (.int (0 : Int32)), .val (.ref r1), .val (.int (1 : Int32)), .val (.int (1 : Int32)), .val (.ref ar_4), .val (.ref r1), .val (.int (1 : Int32)), .val (.int (0 : Int32)), .val (.int d0)] [(.int (6 : Int32)), (.int (d0 &&& (255 : Int32))), (.int (192 : Int32)), (.int (0 : Int32)), (.ref ar_4)]))
    refine Good.back (fun _ k => XS.ishr X4.here hx rfl (hb hby own_d11_85) rfl k) ?_
    show Good p e below _ (T4.setTop (mkF m 86 #[.val (.int (0 : Int32)), .val (.ref r1), .val (.int (1 : Int32)), .val (.int (1 : Int32)), .val (.ref ar_4), .val (.ref r1), .val (.int (1 : Int32)), .val (.int (0 : Int32)), .val (.int d0)] [(.int ((d0 &&& (255 : Int32)) >>> ((6 : Int32) &&& 31))), (.int (192 : Int32)), (.int (0 : Int32)), (.ref ar_4)]))
    refine Good.back (fun _ k => XS.ior X4.here hx rfl (hb hby own_d11_86) rfl k) ?_
    show Good p e below _ (T4.setTop (mkF m 87 #[.val (.int (0 : Int32)), .val (.ref r1), .val (.int (1 : Int32)), .val (.int (1 : Int32)), .val (.ref ar_4), .val (.ref r1), .val (.int (1 : Int32)), .val (.int (0 : Int32)), .val (.int d0)] [(.int ((192 : Int32) ||| ((d0 &&& (255 : Int32)) >>> ((6 : Int32) &&& 31)))), (.int (0 : Int32)), (.ref ar_4)]))
    refine Good.back (fun _ k => XS.i2b X4.here hx rfl (hb hby own_d11_87) rfl k) ?_
    show Good p e below _ (T4.setTop (mkF m 88 #[.val (.int (0 : Int32)), .val (.ref r1), .val (.int (1 : Int32)), .val (.int (1 : Int32)), .val (.ref ar_4), .val (.ref r1), .val (.int (1 : Int32)), .val (.int (0 : Int32)), .val (.int d0)] [(.int (((192 : Int32) ||| ((d0 &&& (255 : Int32)) >>> ((6 : Int32) &&& 31))).toInt8.toInt32)), (.int (0 : Int32)), (.ref ar_4)]))
    have fc10 := o4_1
    obtain ⟨cl10, Ar10, qk10, S10, N10', H10, G10⟩ := fc10
    have hin10 : ¬ ((0 : Int32) < 0 ∨ cl10.slots.size ≤ ((0 : Int32)).toNatClampNeg) := inb_of S10 ⟨by decide, by decide⟩
    obtain ⟨T10, h10, X10, e10, W10, st10⟩ := stB X4 hx hZ rfl Ar10 (j := (0 : Int32)) hin10 (g := (mkF m 88 #[.val (.int (0 : Int32)), .val (.ref r1), .val (.int (1 : Int32)), .val (.int (1 : Int32)), .val (.ref ar_4), .val (.ref r1), .val (.int (1 : Int32)), .val (.int (0 : Int32)), .val (.int d0)] [(.int (((192 : Int32) ||| ((d0 &&& (255 : Int32)) >>> ((6 : Int32) &&& 31))).toInt8.toInt32)), (.int (0 : Int32)), (.ref ar_4)])) rfl rfl (hb hby own_d11_88)
    refine Good.back st10 ?_
    have f_11 : Arv Z h10 ar_4 kb_4 .byte (2 : Int32) [(.int (((192 : Int32) ||| ((d0 &&& (255 : Int32)) >>> ((6 : Int32) &&& 31))).toInt8.toInt32).toInt8.toInt32), (.int (0 : Int32))] (.int (0 : Int32)) := Arv.set Ar10 qk10 S10 N10' H10 G10 (fits_nar_byte _) W10 0 rfl (Nat.le_of_ble_eq_true rfl)
    have N10 := Fr.snoc X10 N4 g_ar_4
    have Z12 : n0 ≤ h10.size := Nat.le_trans Z5 (Keep.of_wr W10).1
    have K13 : Keep h0 h10 [] := K6.wr W10 (Or.inr sz_ar_4)
    show Good p e below _ (T10.setTop (mkF m 89 #[.val (.int (0 : Int32)), .val (.ref r1), .val (.int (1 : Int32)), .val (.int (1 : Int32)), .val (.ref ar_4), .val (.ref r1), .val (.int (1 : Int32)), .val (.int (0 : Int32)), .val (.int d0)] []))
    refine Good.back (fun _ k => XS.aload X10.here hx rfl (hb hby own_d11_89) rfl rfl k) ?_
    show Good p e below _ (T10.setTop (mkF m 91 #[.val (.int (0 : Int32)), .val (.ref r1), .val (.int (1 : Int32)), .val (.int (1 : Int32)), .val (.ref ar_4), .val (.ref r1), .val (.int (1 : Int32)), .val (.int (0 : Int32)), .val (.int d0)] [(.ref ar_4)]))
    refine Good.back (fun _ k => XS.iloadN X10.here hx rfl (hb hby own_d11_91) rfl k) ?_
    show Good p e below _ (T10.setTop (mkF m 92 #[.val (.int (0 : Int32)), .val (.ref r1), .val (.int (1 : Int32)), .val (.int (1 : Int32)), .val (.ref ar_4), .val (.ref r1), .val (.int (1 : Int32)), .val (.int (0 : Int32)), .val (.int d0)] [(.int (1 : Int32)), (.ref ar_4)]))
    refine Good.back (fun _ k => XS.iinc X10.here hx rfl (hb hby own_d11_92) rfl (l' := #[.val (.int (0 : Int32)), .val (.ref r1), .val (.int (1 : Int32)), .val (.int ((1 : Int32) + (1 : Int32))), .val (.ref ar_4), .val (.ref r1), .val (.int (1 : Int32)), .val (.int (0 : Int32)), .val (.int d0)]) rfl k) ?_
    show Good p e below _ (T10.setTop (mkF m 95 #[.val (.int (0 : Int32)), .val (.ref r1), .val (.int (1 : Int32)), .val (.int ((1 : Int32) + (1 : Int32))), .val (.ref ar_4), .val (.ref r1), .val (.int (1 : Int32)), .val (.int (0 : Int32)), .val (.int d0)] [(.int (1 : Int32)), (.ref ar_4)]))
    rw [show (((1 : Int32) + (1 : Int32)) : Int32) = (2 : Int32) from by decide]
    show Good p e below _ (T10.setTop (mkF m 95 #[.val (.int (0 : Int32)), .val (.ref r1), .val (.int (1 : Int32)), .val (.int (2 : Int32)), .val (.ref ar_4), .val (.ref r1), .val (.int (1 : Int32)), .val (.int (0 : Int32)), .val (.int d0)] [(.int (1 : Int32)), (.ref ar_4)]))
    refine Good.back (fun _ k => XS.sipush X10.here hx rfl (hb hby own_d11_95) k) ?_
    show Good p e below _ (T10.setTop (mkF m 98 #[.val (.int (0 : Int32)), .val (.ref r1), .val (.int (1 : Int32)), .val (.int (2 : Int32)), .val (.ref ar_4), .val (.ref r1), .val (.int (1 : Int32)), .val (.int (0 : Int32)), .val (.int d0)] [(.int (128 : Int32)), (.int (1 : Int32)), (.ref ar_4)]))
    refine Good.back (fun _ k => XS.iload X10.here hx rfl (hb hby own_d11_98) rfl k) ?_
    show Good p e below _ (T10.setTop (mkF m 100 #[.val (.int (0 : Int32)), .val (.ref r1), .val (.int (1 : Int32)), .val (.int (2 : Int32)), .val (.ref ar_4), .val (.ref r1), .val (.int (1 : Int32)), .val (.int (0 : Int32)), .val (.int d0)] [(.int d0), (.int (128 : Int32)), (.int (1 : Int32)), (.ref ar_4)]))
    refine Good.back (fun _ k => XS.bipush X10.here hx rfl (hb hby own_d11_100) k) ?_
    show Good p e below _ (T10.setTop (mkF m 102 #[.val (.int (0 : Int32)), .val (.ref r1), .val (.int (1 : Int32)), .val (.int (2 : Int32)), .val (.ref ar_4), .val (.ref r1), .val (.int (1 : Int32)), .val (.int (0 : Int32)), .val (.int d0)] [(.int (63 : Int32)), (.int d0), (.int (128 : Int32)), (.int (1 : Int32)), (.ref ar_4)]))
    refine Good.back (fun _ k => XS.iand X10.here hx rfl (hb hby own_d11_102) rfl k) ?_
    show Good p e below _ (T10.setTop (mkF m 103 #[.val (.int (0 : Int32)), .val (.ref r1), .val (.int (1 : Int32)), .val (.int (2 : Int32)), .val (.ref ar_4), .val (.ref r1), .val (.int (1 : Int32)), .val (.int (0 : Int32)), .val (.int d0)] [(.int (d0 &&& (63 : Int32))), (.int (128 : Int32)), (.int (1 : Int32)), (.ref ar_4)]))
    refine Good.back (fun _ k => XS.ior X10.here hx rfl (hb hby own_d11_103) rfl k) ?_
    show Good p e below _ (T10.setTop (mkF m 104 #[.val (.int (0 : Int32)), .val (.ref r1), .val (.int (1 : Int32)), .val (.int (2 : Int32)), .val (.ref ar_4), .val (.ref r1), .val (.int (1 : Int32)), .val (.int (0 : Int32)), .val (.int d0)] [(.int ((128 : Int32) ||| (d0 &&& (63 : Int32)))), (.int (1 : Int32)), (.ref ar_4)]))
    refine Good.back (fun _ k => XS.i2b X10.here hx rfl (hb hby own_d11_104) rfl k) ?_
    show Good p e below _ (T10.setTop (mkF m 105 #[.val (.int (0 : Int32)), .val (.ref r1), .val (.int (1 : Int32)), .val (.int (2 : Int32)), .val (.ref ar_4), .val (.ref r1), .val (.int (1 : Int32)), .val (.int (0 : Int32)), .val (.int d0)] [(.int (((128 : Int32) ||| (d0 &&& (63 : Int32))).toInt8.toInt32)), (.int (1 : Int32)), (.ref ar_4)]))
    have fc14 := f_11
    obtain ⟨cl14, Ar14, qk14, S14, N14', H14, G14⟩ := fc14
    have hin14 : ¬ ((1 : Int32) < 0 ∨ cl14.slots.size ≤ ((1 : Int32)).toNatClampNeg) := inb_of S14 ⟨by decide, by decide⟩
    obtain ⟨T14, h14, X14, e14, W14, st14⟩ := stB X10 hx hZ e10 Ar14 (j := (1 : Int32)) hin14 (g := (mkF m 105 #[.val (.int (0 : Int32)), .val (.ref r1), .val (.int (1 : Int32)), .val (.int (2 : Int32)), .val (.ref ar_4), .val (.ref r1), .val (.int (1 : Int32)), .val (.int (0 : Int32)), .val (.int d0)] [(.int (((128 : Int32) ||| (d0 &&& (63 : Int32))).toInt8.toInt32)), (.int (1 : Int32)), (.ref ar_4)])) rfl rfl (hb hby own_d11_105)
    refine Good.back st14 ?_
    have f_15 : Arv Z h14 ar_4 kb_4 .byte (2 : Int32) [(.int (((192 : Int32) ||| ((d0 &&& (255 : Int32)) >>> ((6 : Int32) &&& 31))).toInt8.toInt32).toInt8.toInt32), (.int (((128 : Int32) ||| (d0 &&& (63 : Int32))).toInt8.toInt32).toInt8.toInt32)] (.int (0 : Int32)) := Arv.set Ar14 qk14 S14 N14' H14 G14 (fits_nar_byte _) W14 1 rfl (Nat.le_of_ble_eq_true rfl)
    have N14 := Fr.snoc X14 N10 g_ar_4
    have Z16 : n0 ≤ h14.size := Nat.le_trans Z12 (Keep.of_wr W14).1
    have K17 : Keep h0 h14 [] := K13.wr W14 (Or.inr sz_ar_4)
    show Good p e below _ (T14.setTop (mkF m 106 #[.val (.int (0 : Int32)), .val (.ref r1), .val (.int (1 : Int32)), .val (.int (2 : Int32)), .val (.ref ar_4), .val (.ref r1), .val (.int (1 : Int32)), .val (.int (0 : Int32)), .val (.int d0)] []))
    refine Good.back (fun _ k => XS.goto X14.here hx rfl (pc0 := 106) (pc' := 118) rfl (hb hby own_d11_106) (by decide) (by decide) k) ?_
    show Good p e below _ (T14.setTop (mkF m 118 #[.val (.int (0 : Int32)), .val (.ref r1), .val (.int (1 : Int32)), .val (.int (2 : Int32)), .val (.ref ar_4), .val (.ref r1), .val (.int (1 : Int32)), .val (.int (0 : Int32)), .val (.int d0)] []))
    refine Good.back (fun _ k => XS.iinc X14.here hx rfl (hb hby own_d11_118) rfl (l' := #[.val (.int (0 : Int32)), .val (.ref r1), .val (.int (1 : Int32)), .val (.int (2 : Int32)), .val (.ref ar_4), .val (.ref r1), .val (.int (1 : Int32)), .val (.int ((0 : Int32) + (1 : Int32))), .val (.int d0)]) rfl k) ?_
    show Good p e below _ (T14.setTop (mkF m 121 #[.val (.int (0 : Int32)), .val (.ref r1), .val (.int (1 : Int32)), .val (.int (2 : Int32)), .val (.ref ar_4), .val (.ref r1), .val (.int (1 : Int32)), .val (.int ((0 : Int32) + (1 : Int32))), .val (.int d0)] []))
    rw [show (((0 : Int32) + (1 : Int32)) : Int32) = (1 : Int32) from by decide]
    show Good p e below _ (T14.setTop (mkF m 121 #[.val (.int (0 : Int32)), .val (.ref r1), .val (.int (1 : Int32)), .val (.int (2 : Int32)), .val (.ref ar_4), .val (.ref r1), .val (.int (1 : Int32)), .val (.int (1 : Int32)), .val (.int d0)] []))
    refine Good.back (fun _ k => XS.goto X14.here hx rfl (pc0 := 121) (pc' := 49) rfl (hb hby own_d11_121) (by decide) (by decide) k) ?_
    show Good p e below _ (T14.setTop (mkF m 49 #[.val (.int (0 : Int32)), .val (.ref r1), .val (.int (1 : Int32)), .val (.int (2 : Int32)), .val (.ref ar_4), .val (.ref r1), .val (.int (1 : Int32)), .val (.int (1 : Int32)), .val (.int d0)] []))
    refine Good.back (fun _ k => XS.iload X14.here hx rfl (hb hby own_d11_49) rfl k) ?_
    show Good p e below _ (T14.setTop (mkF m 51 #[.val (.int (0 : Int32)), .val (.ref r1), .val (.int (1 : Int32)), .val (.int (2 : Int32)), .val (.ref ar_4), .val (.ref r1), .val (.int (1 : Int32)), .val (.int (1 : Int32)), .val (.int d0)] [(.int (1 : Int32))]))
    refine Good.back (fun _ k => XS.iload X14.here hx rfl (hb hby own_d11_51) rfl k) ?_
    show Good p e below _ (T14.setTop (mkF m 53 #[.val (.int (0 : Int32)), .val (.ref r1), .val (.int (1 : Int32)), .val (.int (2 : Int32)), .val (.ref ar_4), .val (.ref r1), .val (.int (1 : Int32)), .val (.int (1 : Int32)), .val (.int d0)] [(.int (1 : Int32)), (.int (1 : Int32))]))
    refine Good.back (fun _ k => XS.icmpYes X14.here hx rfl (pc0 := 53) (pc' := 124) rfl (hb hby own_d11_53) rfl (flt (by decide : ¬ ((1 : Int32) < (1 : Int32)))).2.1 (by decide) (by decide) k) ?_
    show Good p e below _ (T14.setTop (mkF m 124 #[.val (.int (0 : Int32)), .val (.ref r1), .val (.int (1 : Int32)), .val (.int (2 : Int32)), .val (.ref ar_4), .val (.ref r1), .val (.int (1 : Int32)), .val (.int (1 : Int32)), .val (.int d0)] []))
    refine Good.back (fun _ k => XS.iloadN X14.here hx rfl (hb hby own_d11_124) rfl k) ?_
    show Good p e below _ (T14.setTop (mkF m 125 #[.val (.int (0 : Int32)), .val (.ref r1), .val (.int (1 : Int32)), .val (.int (2 : Int32)), .val (.ref ar_4), .val (.ref r1), .val (.int (1 : Int32)), .val (.int (1 : Int32)), .val (.int d0)] [(.int (2 : Int32))]))
    refine Good.back (fun _ k => XS.aload X14.here hx rfl (hb hby own_d11_125) rfl rfl k) ?_
    show Good p e below _ (T14.setTop (mkF m 127 #[.val (.int (0 : Int32)), .val (.ref r1), .val (.int (1 : Int32)), .val (.int (2 : Int32)), .val (.ref ar_4), .val (.ref r1), .val (.int (1 : Int32)), .val (.int (1 : Int32)), .val (.int d0)] [(.ref ar_4), (.int (2 : Int32))]))
    have fc18 := f_15
    obtain ⟨cl18, Ar18, qk18, S18, N18', H18, G18⟩ := fc18
    refine Good.back (X14.arraylength hx (by rw [e14]; exact Ar18.1) (State.isArrayOf_alike hZ.alike Ar18.2.1) (g := (mkF m 127 #[.val (.int (0 : Int32)), .val (.ref r1), .val (.int (1 : Int32)), .val (.int (2 : Int32)), .val (.ref ar_4), .val (.ref r1), .val (.int (1 : Int32)), .val (.int (1 : Int32)), .val (.int d0)] [(.ref ar_4), (.int (2 : Int32))])) rfl rfl (hb hby own_d11_127)) ?_
    rw [len_of S18 N18']
    show Good p e below _ (T14.setTop (mkF m 128 #[.val (.int (0 : Int32)), .val (.ref r1), .val (.int (1 : Int32)), .val (.int (2 : Int32)), .val (.ref ar_4), .val (.ref r1), .val (.int (1 : Int32)), .val (.int (1 : Int32)), .val (.int d0)] [(.int (2 : Int32)), (.int (2 : Int32))]))
    refine Good.back (fun _ k => XS.icmpNo X14.here hx rfl (hb hby own_d11_128) rfl (teq (by decide : ((2 : Int32) = (2 : Int32)))).2 k) ?_
    show Good p e below _ (T14.setTop (mkF m 131 #[.val (.int (0 : Int32)), .val (.ref r1), .val (.int (1 : Int32)), .val (.int (2 : Int32)), .val (.ref ar_4), .val (.ref r1), .val (.int (1 : Int32)), .val (.int (1 : Int32)), .val (.int d0)] []))
    refine Good.back (fun _ k => XS.aload X14.here hx rfl (hb hby own_d11_131) rfl rfl k) ?_
    show Good p e below _ (T14.setTop (mkF m 133 #[.val (.int (0 : Int32)), .val (.ref r1), .val (.int (1 : Int32)), .val (.int (2 : Int32)), .val (.ref ar_4), .val (.ref r1), .val (.int (1 : Int32)), .val (.int (1 : Int32)), .val (.int d0)] [(.ref ar_4)]))
    obtain ⟨fs19, hr19, hrun19, hended19, hW19, hsame19⟩ := X14.leave (v := some (.ref ar_4)) (fun h => by rw [Bd.returns] at h; cases h)
    refine Good.done (retOut X14 hx Bd.returns rfl (Or.inr (Or.inr (Or.inr (Or.inr ⟨rfl, rfl, rfl⟩)))) (hb hby own_d11_133) hr19) hrun19 hended19 ⟨_, _, rfl, ?_, ⟨_, rfl⟩, hW19, hsame19.mono (by decide) (by decide)⟩
    show Q11 Z r1 kb d0 h0 n0 _ T14.heap _
    rw [e14]
    exact ⟨_, rfl, N14, K17⟩
  · show Good p e below _ (s₁.setTop (mkF m 0 #[.val (.int (0 : Int32)), .val (.ref r1), .val (.int (1 : Int32)), .unset, .unset, .unset, .unset, .unset, .unset] []))
    refine Good.back (fun _ k => XS.iloadN X0.here hx rfl (hb hby own_d11_0) rfl k) ?_
    show Good p e below _ (s₁.setTop (mkF m 1 #[.val (.int (0 : Int32)), .val (.ref r1), .val (.int (1 : Int32)), .unset, .unset, .unset, .unset, .unset, .unset] [(.int (0 : Int32))]))
    refine Good.back (fun _ k => XS.iconst X0.here hx rfl (hb hby own_d11_1) k) ?_
    show Good p e below _ (s₁.setTop (mkF m 2 #[.val (.int (0 : Int32)), .val (.ref r1), .val (.int (1 : Int32)), .unset, .unset, .unset, .unset, .unset, .unset] [(.int (1 : Int32)), (.int (0 : Int32))]))
    refine Good.back (fun _ k => XS.icmpYes X0.here hx rfl (pc0 := 2) (pc' := 11) rfl (hb hby own_d11_2) rfl (feq (by decide : ¬ ((0 : Int32) = (1 : Int32)))).2 (by decide) (by decide) k) ?_
    show Good p e below _ (s₁.setTop (mkF m 11 #[.val (.int (0 : Int32)), .val (.ref r1), .val (.int (1 : Int32)), .unset, .unset, .unset, .unset, .unset, .unset] []))
    refine Good.back (fun _ k => XS.aloadN X0.here hx rfl (hb hby own_d11_11) rfl rfl k) ?_
    show Good p e below _ (s₁.setTop (mkF m 12 #[.val (.int (0 : Int32)), .val (.ref r1), .val (.int (1 : Int32)), .unset, .unset, .unset, .unset, .unset, .unset] [(.ref r1)]))
    refine Good.back (fun _ k => XS.iconst X0.here hx rfl (hb hby own_d11_12) k) ?_
    show Good p e below _ (s₁.setTop (mkF m 13 #[.val (.int (0 : Int32)), .val (.ref r1), .val (.int (1 : Int32)), .unset, .unset, .unset, .unset, .unset, .unset] [(.int (0 : Int32)), (.ref r1)]))
    refine Good.back (fun _ k => XS.aloadN X0.here hx rfl (hb hby own_d11_13) rfl rfl k) ?_
    show Good p e below _ (s₁.setTop (mkF m 14 #[.val (.int (0 : Int32)), .val (.ref r1), .val (.int (1 : Int32)), .unset, .unset, .unset, .unset, .unset, .unset] [(.ref r1), (.int (0 : Int32)), (.ref r1)]))
    have fc20 := VB
    obtain ⟨cl20, Ar20, qk20, S20, N20', H20, G20⟩ := fc20
    refine Good.back (X0.arraylength hx (by rw [e0]; exact Ar20.1) (State.isArrayOf_alike hZ.alike Ar20.2.1) (g := (mkF m 14 #[.val (.int (0 : Int32)), .val (.ref r1), .val (.int (1 : Int32)), .unset, .unset, .unset, .unset, .unset, .unset] [(.ref r1), (.int (0 : Int32)), (.ref r1)])) rfl rfl (hb hby own_d11_14)) ?_
    rw [len_of S20 N20']
    show Good p e below _ (s₁.setTop (mkF m 15 #[.val (.int (0 : Int32)), .val (.ref r1), .val (.int (1 : Int32)), .unset, .unset, .unset, .unset, .unset, .unset] [(.int (1 : Int32)), (.int (0 : Int32)), (.ref r1)]))
    obtain ⟨_, _, ⟨T21, L21, k21, n21⟩, -, X21, ⟨Lc21, hQ21, l21, y21, z21⟩, st21⟩ := Jvm.LawKit.callS X0 hx (y := (⟨"java/lang/StringCoding", "hasNegatives", "([BII)Z"⟩ : MethodName)) hown (mvT hZ (hw _ (List.mem_of_getElem? (i := 64) rfl))) (mvT hZ (hw _ (List.mem_of_getElem? (i := 65) rfl))) (mvT hZ (hw _ (List.mem_of_getElem? (i := 66) rfl))) (mvT hZ (hw _ (List.mem_of_getElem? (i := 67) rfl))) (by decide) (backOf (W := 0) (rm12pos l Z a0 hw [] r1 kb d0 h0 n0 Z0 VB (hd)) hZ (hw _ (List.mem_of_getElem? (i := 67) rfl)) (hw _ (List.mem_of_getElem? (i := 66) rfl)) (by decide) (by decide)) (g := (mkF m 15 #[.val (.int (0 : Int32)), .val (.ref r1), .val (.int (1 : Int32)), .unset, .unset, .unset, .unset, .unset, .unset] [(.int (1 : Int32)), (.int (0 : Int32)), (.ref r1)])) rfl (by rw [hml]; rfl) (argsL := [(.ref r1), (.int (0 : Int32)), (.int (1 : Int32))]) (rest := []) (lenOf own_pd130 rfl) rfl (by show 2 * 0 + _ ≤ _; exact Nat.le_of_eq rfl) (hb hby own_d11_15) (fun _ _ => ⟨rfl, e0, (by decide : 0 + 0 ≤ _), (by decide : 0 + 0 ≤ _)⟩)
    dsimp only [Pt.U, Pt.locs, Pt.cells, Pt.slots] at X21 l21 y21 z21 st21 hQ21
    subst l21 y21 z21
    obtain ⟨rfl, N21q, eh21⟩ := hQ21
    have N21 := Fr.app N0 N21q
    refine Good.back st21 ?_
    show Good p e below _ (T21.setTop (mkF m 18 #[.val (.int (0 : Int32)), .val (.ref r1), .val (.int (1 : Int32)), .unset, .unset, .unset, .unset, .unset, .unset] [(.int (0 : Int32))]))
    refine Good.back (fun _ k => XS.ifNo X21.here hx rfl (hb hby own_d11_18) rfl ((if0 _ _).trans (teq (by decide : ((0 : Int32) = (0 : Int32)))).2) k) ?_
    show Good p e below _ (T21.setTop (mkF m 21 #[.val (.int (0 : Int32)), .val (.ref r1), .val (.int (1 : Int32)), .unset, .unset, .unset, .unset, .unset, .unset] []))
    refine Good.back (fun _ k => XS.aloadN X21.here hx rfl (hb hby own_d11_21) rfl rfl k) ?_
    show Good p e below _ (T21.setTop (mkF m 22 #[.val (.int (0 : Int32)), .val (.ref r1), .val (.int (1 : Int32)), .unset, .unset, .unset, .unset, .unset, .unset] [(.ref r1)]))
    obtain ⟨T22, h22, X22, e22, E22, A22, B22, st22⟩ := cloneH X21 hx hZ hown (hw _ (List.mem_of_getElem? (i := 71) rfl)) (hw _ (List.mem_of_getElem? (i := 72) rfl)) (hw _ (List.mem_of_getElem? (i := 76) rfl)) (hw _ (List.mem_of_getElem? (i := 74) rfl)) (hw _ (List.mem_of_getElem? (i := 75) rfl)) (hw _ (List.mem_of_getElem? (i := 77) rfl)) eh21 (Arv.arh VB) EB (g := (mkF m 22 #[.val (.int (0 : Int32)), .val (.ref r1), .val (.int (1 : Int32)), .unset, .unset, .unset, .unset, .unset, .unset] [(.ref r1)])) rfl (by rw [hml]; rfl) rfl (hb hby own_d11_22) (by decide) (W := 0) (cap := 1) (by show 2 * 0 + _ ≤ _; exact Nat.le_of_eq rfl) (by decide) (by decide) (by decide) (by decide)
    obtain ⟨b22, g22⟩ : ∃ z, z = h0.size := ⟨_, rfl⟩
    rw [← g22] at A22 B22 st22
    refine Good.back st22 ?_
    have g_b22 : n0 ≤ b22 := Nat.le_trans Z0 (Nat.le_of_eq g22.symm)
    have sz_b22 : h0.size ≤ b22 := Nat.le_trans KR.1 (Nat.le_of_eq g22.symm)
    have Z23 : n0 ≤ h22.size := Nat.le_trans Z0 E22.1
    have K24 : Keep h0 h22 [] := KR.ext E22
    have f_25 : Arv Z h22 b22 kb .byte (1 : Int32) [(.int d0)] (.int (0 : Int32)) := A22
    have f_26 : Exa Z h22 b22 "[B" := B22
    show Good p e below _ (T22.setTop (mkF m 25 #[.val (.int (0 : Int32)), .val (.ref r1), .val (.int (1 : Int32)), .unset, .unset, .unset, .unset, .unset, .unset] [(.ref b22)]))
    obtain ⟨T27, X27, e27, st27⟩ := castY X22 hx hZ hown (hw _ (List.mem_of_getElem? (i := 78) rfl)) e22 (Ins.self f_26) (g := (mkF m 25 #[.val (.int (0 : Int32)), .val (.ref r1), .val (.int (1 : Int32)), .unset, .unset, .unset, .unset, .unset, .unset] [(.ref b22)])) rfl rfl (hb hby own_d11_25)
    refine Good.back st27 ?_
    show Good p e below _ (T27.setTop (mkF m 28 #[.val (.int (0 : Int32)), .val (.ref r1), .val (.int (1 : Int32)), .unset, .unset, .unset, .unset, .unset, .unset] [(.ref b22)]))
    obtain ⟨fs28, hr28, hrun28, hended28, hW28, hsame28⟩ := X27.leave (v := some (.ref b22)) (fun h => by rw [Bd.returns] at h; cases h)
    refine Good.done (retOut X27 hx Bd.returns rfl (Or.inr (Or.inr (Or.inr (Or.inr ⟨rfl, rfl, rfl⟩)))) (hb hby own_d11_28) hr28) hrun28 hended28 ⟨_, _, rfl, ?_, ⟨_, rfl⟩, hW28, hsame28.mono (by decide) (by decide)⟩
    show Q11 Z r1 kb d0 h0 n0 _ T27.heap _
    rw [e27]
    exact ⟨_, rfl, N21, K24⟩
theorem own_pd198 : parseMethodDescriptor "(B[BZ)[B" = some ⟨[.byte, (.array .byte), .boolean], some (.array .byte)⟩ := by decide +kernel
theorem own_d10_0 : decode jdk_42_method_18_code 0 = .ok (.aload_n 0, 1) := by decide +kernel
theorem own_d10_1 : decode jdk_42_method_18_code 1 = .ok (.getstatic 86, 3) := by decide +kernel
theorem own_d10_4 : decode jdk_42_method_18_code 4 = .ok (.if_acmp .ne 10, 3) := by decide +kernel
theorem own_d10_7 : decode jdk_42_method_18_code 7 = .ok (.iload_n 1, 1) := by decide +kernel
theorem own_d10_8 : decode jdk_42_method_18_code 8 = .ok (.aload_n 2, 1) := by decide +kernel
theorem own_d10_9 : decode jdk_42_method_18_code 9 = .ok (.iconst 1, 1) := by decide +kernel
theorem own_d10_10 : decode jdk_42_method_18_code 10 = .ok (.invokestatic 252, 3) := by decide +kernel
theorem own_d10_13 : decode jdk_42_method_18_code 13 = .ok (.areturn, 1) := by decide +kernel
theorem own_ef_10 (m : MethodId) (x0 : Addr) (x1 : Int32) (x2 : Addr) : entryFrame m #[(.ref x0), (.int x1), (.ref x2)] 3 = mkF m 0 #[.val (.ref x0), .val (.int x1), .val (.ref x2)] [] := by first | (simp [entryFrame, mkF, argsToLocals, Value.category]; done) | rfl
def Q10 (Z : State) (r2 : Addr) (u8 : Addr) (kb : ClassId) (d0 : Int32) (h0 : Heap) (n0 : Nat) (v : Option Value) (h : Heap) (L : List Loc) : Prop := ∃ (ar : Addr), v = some (.ref ar) ∧ Fr n0 L ∧ Keep h0 h []
set_option maxRecDepth 65536 in
set_option maxHeartbeats 40000000 in
theorem rm10 (l : Launch) (Z : State) (a0 : Array Value) (hw : ∀ d ∈ tables_1, d.before a0 Z = true) (ws : List Jvm.Cond) (r2 : Addr) (u8 : Addr) (kb : ClassId) (d0 : Int32) (h0 : Heap) (n0 : Nat) (Z0 : n0 ≤ h0.size) (S_in : Sta Z h0 "sun/nio/cs/UTF_8" "INSTANCE" "Lsun/nio/cs/UTF_8;" (.ref u8)) (VB : Arv Z h0 r2 kb .byte (1 : Int32) [(.int d0)] (.int (0 : Int32))) (EB : Exa Z h0 r2 "[B") :
    MetFree l (⟨"java/lang/String", "encode", "(Ljava/nio/charset/Charset;B[B)[B"⟩ : MethodName) (head1 (Jvm.Cond.code (⟨"java/lang/String", "encode", "(Ljava/nio/charset/Charset;B[B)[B"⟩ : MethodName) jdk_42_method_18_code 3 (some (.array .byte)) :: ws) ({ frames := 3, cells := 1, slots := 2, locals := 50 } : Room)) (fun a U => a = #[(.ref u8), (.int (0 : Int32)), (.ref r2)] ∧ Z.Warmed39 U.vm ∧ U.heap = h0) (fun _ _ _ _ _ => True) (fun _ U o U' => ∃ v L, o = .returned v ∧ Q10 Z r2 u8 kb d0 h0 n0 v U'.heap L ∧ FrameEnd U o U' L ({ frames := 3, cells := 1, slots := 2, locals := 50 } : Room).cells ({ frames := 3, cells := 1, slots := 2, locals := 50 } : Room).slots) := by
  refine MetFree.of_bodySF (plainFor_of_name own_pn1) hisR ?_
  intro p e s m args below meth c s₁ Bd hml0 hP hK
  obtain ⟨rfl, hZ, hh⟩ := hP
  have hx := Bd.exec
  have hby := Bd.bytes
  have hml : c.maxLocals = 3 := hml0
  have hown : s.vm.findClass "java/lang/String" = some m.cls := findClass_of_methodNamed Bd.named
  have hnm := (name_of_methodNamed Bd.named Bd.method).1
  have X0 : Stand p l e ({ frames := 3, cells := 1, slots := 2, locals := 50 } : Room) s m #[(.ref u8), (.int (0 : Int32)), (.ref r2)] below meth c s₁ [] 0 0 := Stand.of_body Bd
  have e0 : s₁.heap = h0 := by rw [← hh, Bd.state]; rfl
  have N0 := Fr.nil n0
  have KR : Keep h0 h0 [] := Keep.refl h0 _
  show Good p e below (fun o U' => ∃ v L, o = .returned v ∧ Q10 Z r2 u8 kb d0 h0 n0 v U'.heap L ∧ FrameEnd s o U' L ({ frames := 3, cells := 1, slots := 2, locals := 50 } : Room).cells ({ frames := 3, cells := 1, slots := 2, locals := 50 } : Room).slots) _
  refine Good.back (S' := s₁.setTop (mkF m 0 #[.val (.ref u8), .val (.int (0 : Int32)), .val (.ref r2)] [])) (fun t k => castTop (own_ef_10 m u8 (0 : Int32) r2) k) ?_
  show Good p e below _ (s₁.setTop (mkF m 0 #[.val (.ref u8), .val (.int (0 : Int32)), .val (.ref r2)] []))
  refine Good.back (fun _ k => XS.aloadN X0.here hx rfl (hb hby own_d10_0) rfl rfl k) ?_
  show Good p e below _ (s₁.setTop (mkF m 1 #[.val (.ref u8), .val (.int (0 : Int32)), .val (.ref r2)] [(.ref u8)]))
  obtain ⟨T1, X1, e1, st1⟩ := getS2 X0 hx hZ hown (host := "") (Or.inl (hw _ (List.mem_of_getElem? (i := 59) rfl))) Via.refl e0 S_in (g := (mkF m 1 #[.val (.ref u8), .val (.int (0 : Int32)), .val (.ref r2)] [(.ref u8)])) rfl (hb hby own_d10_1)
  refine Good.back st1 ?_
  show Good p e below _ (T1.setTop (mkF m 4 #[.val (.ref u8), .val (.int (0 : Int32)), .val (.ref r2)] [(.ref u8), (.ref u8)]))
  refine Good.back (fun _ k => Jvm.RoadKit.acmp (g := (mkF m 4 #[.val (.ref u8), .val (.int (0 : Int32)), .val (.ref r2)] [(.ref u8), (.ref u8)])) X1 hx rfl rfl rfl (pc0 := 4) (pc' := 7) (same := true) rfl (hb hby own_d10_4) rfl (decide_eq_true rfl) (by decide) (by decide) k) ?_
  show Good p e below _ (T1.setTop (mkF m 7 #[.val (.ref u8), .val (.int (0 : Int32)), .val (.ref r2)] []))
  refine Good.back (fun _ k => XS.iloadN X1.here hx rfl (hb hby own_d10_7) rfl k) ?_
  show Good p e below _ (T1.setTop (mkF m 8 #[.val (.ref u8), .val (.int (0 : Int32)), .val (.ref r2)] [(.int (0 : Int32))]))
  refine Good.back (fun _ k => XS.aloadN X1.here hx rfl (hb hby own_d10_8) rfl rfl k) ?_
  show Good p e below _ (T1.setTop (mkF m 9 #[.val (.ref u8), .val (.int (0 : Int32)), .val (.ref r2)] [(.ref r2), (.int (0 : Int32))]))
  refine Good.back (fun _ k => XS.iconst X1.here hx rfl (hb hby own_d10_9) k) ?_
  show Good p e below _ (T1.setTop (mkF m 10 #[.val (.ref u8), .val (.int (0 : Int32)), .val (.ref r2)] [(.int (1 : Int32)), (.ref r2), (.int (0 : Int32))]))
  obtain ⟨_, _, ⟨T2, L2, k2, n2⟩, -, X2, ⟨Lc2, hQ2, l2, y2, z2⟩, st2⟩ := Jvm.LawKit.callS X1 hx (y := (⟨"java/lang/String", "encodeUTF8", "(B[BZ)[B"⟩ : MethodName)) hown (mvT hZ (hw _ (List.mem_of_getElem? (i := 61) rfl))) (mvT hZ (hw _ (List.mem_of_getElem? (i := 62) rfl))) (mvT hZ (hw _ (List.mem_of_getElem? (i := 5) rfl))) (mvT hZ (hw _ (List.mem_of_getElem? (i := 63) rfl))) (by decide) (backOf (W := 0) (rm11 l Z a0 hw [] r2 kb d0 h0 n0 Z0 VB EB) hZ (hw _ (List.mem_of_getElem? (i := 63) rfl)) (hw _ (List.mem_of_getElem? (i := 5) rfl)) (by decide) (by decide)) (g := (mkF m 10 #[.val (.ref u8), .val (.int (0 : Int32)), .val (.ref r2)] [(.int (1 : Int32)), (.ref r2), (.int (0 : Int32))])) rfl (by rw [hml]; rfl) (argsL := [(.int (0 : Int32)), (.ref r2), (.int (1 : Int32))]) (rest := []) (lenOf own_pd198 rfl) rfl (by show 2 * 0 + _ ≤ _; exact Nat.le_of_eq rfl) (hb hby own_d10_10) (fun _ _ => ⟨rfl, e1, (by decide : 0 + 1 ≤ _), (by decide : 0 + 2 ≤ _)⟩)
  dsimp only [Pt.U, Pt.locs, Pt.cells, Pt.slots] at X2 l2 y2 z2 st2 hQ2
  subst l2 y2 z2
  obtain ⟨ar_2, rfl, N2q, Kq2⟩ := hQ2
  have N2 := Fr.app N0 N2q
  have Z3 : n0 ≤ T2.heap.size := Nat.le_trans Z0 Kq2.1
  have K4 : Keep h0 T2.heap [] := KR.trans Kq2 all0
  refine Good.back st2 ?_
  show Good p e below _ (T2.setTop (mkF m 13 #[.val (.ref u8), .val (.int (0 : Int32)), .val (.ref r2)] [(.ref ar_2)]))
  obtain ⟨fs5, hr5, hrun5, hended5, hW5, hsame5⟩ := X2.leave (v := some (.ref ar_2)) (fun h => by rw [Bd.returns] at h; cases h)
  refine Good.done (retOut X2 hx Bd.returns rfl (Or.inr (Or.inr (Or.inr (Or.inr ⟨rfl, rfl, rfl⟩)))) (hb hby own_d10_13) hr5) hrun5 hended5 ⟨_, _, rfl, ?_, ⟨_, rfl⟩, hW5, hsame5.mono (by decide) (by decide)⟩
  show Q10 Z r2 u8 kb d0 h0 n0 _ T2.heap _
  exact ⟨_, rfl, N2, K4⟩
theorem own_pd207 : parseMethodDescriptor "()B" = some ⟨[], some .byte⟩ := by decide +kernel
theorem own_pd208 : parseMethodDescriptor "(Ljava/nio/charset/Charset;B[B)[B" = some ⟨[(.object "java/nio/charset/Charset"), .byte, (.array .byte)], some (.array .byte)⟩ := by decide +kernel
theorem own_d8_0 : decode jdk_42_method_64_code 0 = .ok (.aload_n 1, 1) := by decide +kernel
theorem own_d8_1 : decode jdk_42_method_64_code 1 = .ok (.ifnonnull 11, 3) := by decide +kernel
theorem own_d8_12 : decode jdk_42_method_64_code 12 = .ok (.aload_n 1, 1) := by decide +kernel
theorem own_d8_13 : decode jdk_42_method_64_code 13 = .ok (.aload_n 0, 1) := by decide +kernel
theorem own_d8_14 : decode jdk_42_method_64_code 14 = .ok (.invokevirtual 335, 3) := by decide +kernel
theorem own_d8_17 : decode jdk_42_method_64_code 17 = .ok (.aload_n 0, 1) := by decide +kernel
theorem own_d8_18 : decode jdk_42_method_64_code 18 = .ok (.getfield 9, 3) := by decide +kernel
theorem own_d8_21 : decode jdk_42_method_64_code 21 = .ok (.invokestatic 535, 3) := by decide +kernel
theorem own_d8_24 : decode jdk_42_method_64_code 24 = .ok (.areturn, 1) := by decide +kernel
theorem own_ef_8 (m : MethodId) (x0 : Addr) (x1 : Addr) : entryFrame m #[(.ref x0), (.ref x1)] 2 = mkF m 0 #[.val (.ref x0), .val (.ref x1)] [] := by first | (simp [entryFrame, mkF, argsToLocals, Value.category]; done) | rfl
def Q8 (Z : State) (r0 : Addr) (u8 : Addr) (cs : Int32) (ar0 : Addr) (kb : ClassId) (d0 : Int32) (h0 : Heap) (n0 : Nat) (v : Option Value) (h : Heap) (L : List Loc) : Prop := ∃ (ar : Addr), v = some (.ref ar) ∧ Fr n0 L ∧ Keep h0 h []
set_option maxRecDepth 65536 in
set_option maxHeartbeats 40000000 in
theorem rm8 (l : Launch) (Z : State) (a0 : Array Value) (hw : ∀ d ∈ tables_1, d.before a0 Z = true) (ws : List Jvm.Cond) (r0 : Addr) (u8 : Addr) (cs : Int32) (ar0 : Addr) (kb : ClassId) (d0 : Int32) (h0 : Heap) (n0 : Nat) (Z0 : n0 ≤ h0.size) (S_in : Sta Z h0 "sun/nio/cs/UTF_8" "INSTANCE" "Lsun/nio/cs/UTF_8;" (.ref u8)) (S_cs : Sta Z h0 "java/lang/String" "COMPACT_STRINGS" "Z" (.int cs)) (hcs : ¬ (cs = (0 : Int32))) (E0 : Exa Z h0 r0 "java/lang/String") (F_value : Fld Z h0 r0 "java/lang/String" "value" "[B" (.ref ar0)) (F_coder : Fld Z h0 r0 "java/lang/String" "coder" "B" (.int (0 : Int32))) (VB : Arv Z h0 ar0 kb .byte (1 : Int32) [(.int d0)] (.int (0 : Int32))) (EB : Exa Z h0 ar0 "[B") :
    MetFree l (⟨"java/lang/String", "getBytes", "(Ljava/nio/charset/Charset;)[B"⟩ : MethodName) (head1 (Jvm.Cond.code (⟨"java/lang/String", "getBytes", "(Ljava/nio/charset/Charset;)[B"⟩ : MethodName) jdk_42_method_64_code 2 (some (.array .byte)) :: ws) ({ frames := 4, cells := 1, slots := 2, locals := 64 } : Room)) (fun a U => a = #[(.ref r0), (.ref u8)] ∧ Z.Warmed39 U.vm ∧ U.heap = h0) (fun _ _ _ _ _ => True) (fun _ U o U' => ∃ v L, o = .returned v ∧ Q8 Z r0 u8 cs ar0 kb d0 h0 n0 v U'.heap L ∧ FrameEnd U o U' L ({ frames := 4, cells := 1, slots := 2, locals := 64 } : Room).cells ({ frames := 4, cells := 1, slots := 2, locals := 64 } : Room).slots) := by
  refine MetFree.of_bodySF (plainFor_of_name own_pn1) hisR ?_
  intro p e s m args below meth c s₁ Bd hml0 hP hK
  obtain ⟨rfl, hZ, hh⟩ := hP
  have hx := Bd.exec
  have hby := Bd.bytes
  have hml : c.maxLocals = 2 := hml0
  have hown : s.vm.findClass "java/lang/String" = some m.cls := findClass_of_methodNamed Bd.named
  have hnm := (name_of_methodNamed Bd.named Bd.method).1
  have X0 : Stand p l e ({ frames := 4, cells := 1, slots := 2, locals := 64 } : Room) s m #[(.ref r0), (.ref u8)] below meth c s₁ [] 0 0 := Stand.of_body Bd
  have e0 : s₁.heap = h0 := by rw [← hh, Bd.state]; rfl
  have N0 := Fr.nil n0
  have KR : Keep h0 h0 [] := Keep.refl h0 _
  show Good p e below (fun o U' => ∃ v L, o = .returned v ∧ Q8 Z r0 u8 cs ar0 kb d0 h0 n0 v U'.heap L ∧ FrameEnd s o U' L ({ frames := 4, cells := 1, slots := 2, locals := 64 } : Room).cells ({ frames := 4, cells := 1, slots := 2, locals := 64 } : Room).slots) _
  refine Good.back (S' := s₁.setTop (mkF m 0 #[.val (.ref r0), .val (.ref u8)] [])) (fun t k => castTop (own_ef_8 m r0 u8) k) ?_
  show Good p e below _ (s₁.setTop (mkF m 0 #[.val (.ref r0), .val (.ref u8)] []))
  refine Good.back (fun _ k => XS.aloadN X0.here hx rfl (hb hby own_d8_0) rfl rfl k) ?_
  show Good p e below _ (s₁.setTop (mkF m 1 #[.val (.ref r0), .val (.ref u8)] [(.ref u8)]))
  refine Good.back (fun _ k => XS.ifnonnullYes X0.here hx rfl (pc0 := 1) (pc' := 12) rfl (hb hby own_d8_1) rfl (by decide) (by decide) k) ?_
  show Good p e below _ (s₁.setTop (mkF m 12 #[.val (.ref r0), .val (.ref u8)] []))
  refine Good.back (fun _ k => XS.aloadN X0.here hx rfl (hb hby own_d8_12) rfl rfl k) ?_
  show Good p e below _ (s₁.setTop (mkF m 13 #[.val (.ref r0), .val (.ref u8)] [(.ref u8)]))
  refine Good.back (fun _ k => XS.aloadN X0.here hx rfl (hb hby own_d8_13) rfl rfl k) ?_
  show Good p e below _ (s₁.setTop (mkF m 14 #[.val (.ref r0), .val (.ref u8)] [(.ref r0), (.ref u8)]))
  obtain ⟨cq1, kq1, q1a, q1b, q1c⟩ := isOf hZ e0 E0
  obtain ⟨_, _, ⟨T1, L1, k1, n1⟩, -, X1, ⟨Lc1, hQ1, l1, y1, z1⟩, st1⟩ := X0.virtualBack hx (y := (⟨"java/lang/String", "coder", "()B"⟩ : MethodName)) (z := (⟨"java/lang/String", "coder", "()B"⟩ : MethodName)) hown (mvT hZ (hw _ (List.mem_of_getElem? (i := 51) rfl))) (mvT hZ (hw _ (List.mem_of_getElem? (i := 52) rfl))) (notFace_of_selects (args := #[]) (mvT hZ (hw _ (List.mem_of_getElem? (i := 54) rfl)))) (mvT hZ (hw _ (List.mem_of_getElem? (i := 54) rfl))) (mvT hZ (hw _ (List.mem_of_getElem? (i := 53) rfl))) (by decide) (backOf (W := 1) (rm9 l Z a0 hw [] r0 cs h0 n0 Z0 S_cs (hcs) F_coder) hZ (hw _ (List.mem_of_getElem? (i := 55) rfl)) (hw _ (List.mem_of_getElem? (i := 5) rfl)) (by decide) (by decide)) q1a q1c (g := (mkF m 14 #[.val (.ref r0), .val (.ref u8)] [(.ref r0), (.ref u8)])) rfl (by rw [hml]; rfl) (Steps.refl _) (argsL := []) (rest := [(.ref u8)]) (lenOf own_pd207 rfl) rfl (by show 2 * 0 + _ ≤ _; exact Nat.le_of_eq rfl) (hb hby own_d8_14) (fun _ _ => ⟨rfl, e0, (by decide : 0 + 0 ≤ _), (by decide : 0 + 0 ≤ _)⟩)
  dsimp only [Pt.U, Pt.locs, Pt.cells, Pt.slots] at X1 l1 y1 z1 st1 hQ1
  subst l1 y1 z1
  obtain ⟨rfl, N1q, eh1⟩ := hQ1
  have N1 := Fr.app N0 N1q
  refine Good.back (fun _ k => st1.trans k) ?_
  show Good p e below _ (T1.setTop (mkF m 17 #[.val (.ref r0), .val (.ref u8)] [(.int (0 : Int32)), (.ref u8)]))
  refine Good.back (fun _ k => XS.aloadN X1.here hx rfl (hb hby own_d8_17) rfl rfl k) ?_
  show Good p e below _ (T1.setTop (mkF m 18 #[.val (.ref r0), .val (.ref u8)] [(.ref r0), (.int (0 : Int32)), (.ref u8)]))
  obtain ⟨T2, X2, e2, st2⟩ := getF X1 hx hZ hown (host := "") (Or.inl (hw _ (List.mem_of_getElem? (i := 35) rfl))) Via.refl eh1 F_value (g := (mkF m 18 #[.val (.ref r0), .val (.ref u8)] [(.ref r0), (.int (0 : Int32)), (.ref u8)])) rfl rfl (hb hby own_d8_18)
  refine Good.back st2 ?_
  show Good p e below _ (T2.setTop (mkF m 21 #[.val (.ref r0), .val (.ref u8)] [(.ref ar0), (.int (0 : Int32)), (.ref u8)]))
  obtain ⟨_, _, ⟨T3, L3, k3, n3⟩, -, X3, ⟨Lc3, hQ3, l3, y3, z3⟩, st3⟩ := Jvm.LawKit.callS X2 hx (y := (⟨"java/lang/String", "encode", "(Ljava/nio/charset/Charset;B[B)[B"⟩ : MethodName)) hown (mvT hZ (hw _ (List.mem_of_getElem? (i := 56) rfl))) (mvT hZ (hw _ (List.mem_of_getElem? (i := 57) rfl))) (mvT hZ (hw _ (List.mem_of_getElem? (i := 5) rfl))) (mvT hZ (hw _ (List.mem_of_getElem? (i := 58) rfl))) (by decide) (backOf (W := 0) (rm10 l Z a0 hw [] ar0 u8 kb d0 h0 n0 Z0 S_in VB EB) hZ (hw _ (List.mem_of_getElem? (i := 58) rfl)) (hw _ (List.mem_of_getElem? (i := 5) rfl)) (by decide) (by decide)) (g := (mkF m 21 #[.val (.ref r0), .val (.ref u8)] [(.ref ar0), (.int (0 : Int32)), (.ref u8)])) rfl (by rw [hml]; rfl) (argsL := [(.ref u8), (.int (0 : Int32)), (.ref ar0)]) (rest := []) (lenOf own_pd208 rfl) rfl (by show 2 * 0 + _ ≤ _; exact Nat.le_of_eq rfl) (hb hby own_d8_21) (fun _ _ => ⟨rfl, e2, (by decide : 0 + 1 ≤ _), (by decide : 0 + 2 ≤ _)⟩)
  dsimp only [Pt.U, Pt.locs, Pt.cells, Pt.slots] at X3 l3 y3 z3 st3 hQ3
  subst l3 y3 z3
  obtain ⟨ar_3, rfl, N3q, Kq3⟩ := hQ3
  have N3 := Fr.app N1 N3q
  have Z4 : n0 ≤ T3.heap.size := Nat.le_trans Z0 Kq3.1
  have K5 : Keep h0 T3.heap [] := KR.trans Kq3 all0
  refine Good.back st3 ?_
  show Good p e below _ (T3.setTop (mkF m 24 #[.val (.ref r0), .val (.ref u8)] [(.ref ar_3)]))
  obtain ⟨fs6, hr6, hrun6, hended6, hW6, hsame6⟩ := X3.leave (v := some (.ref ar_3)) (fun h => by rw [Bd.returns] at h; cases h)
  refine Good.done (retOut X3 hx Bd.returns rfl (Or.inr (Or.inr (Or.inr (Or.inr ⟨rfl, rfl, rfl⟩)))) (hb hby own_d8_24) hr6) hrun6 hended6 ⟨_, _, rfl, ?_, ⟨_, rfl⟩, hW6, hsame6.mono (by decide) (by decide)⟩
  show Q8 Z r0 u8 cs ar0 kb d0 h0 n0 _ T3.heap _
  exact ⟨_, rfl, N3, K5⟩
theorem own_pd218 : parseMethodDescriptor "(Ljava/nio/charset/Charset;)[B" = some ⟨[(.object "java/nio/charset/Charset")], some (.array .byte)⟩ := by decide +kernel
theorem own_pn3 : plainName "com/example/orderd/orderd/provider/Reply" = true := by first | (simp [plainName, overriddenIn]; done) | decide +kernel
theorem own_d7_0 : decode prog_29_method_1_code 0 = .ok (.aload_n 0, 1) := by decide +kernel
theorem own_d7_1 : decode prog_29_method_1_code 1 = .ok (.invokespecial 1, 3) := by decide +kernel
theorem own_d7_4 : decode prog_29_method_1_code 4 = .ok (.aload_n 0, 1) := by decide +kernel
theorem own_d7_5 : decode prog_29_method_1_code 5 = .ok (.iload_n 1, 1) := by decide +kernel
theorem own_d7_6 : decode prog_29_method_1_code 6 = .ok (.putfield 7, 3) := by decide +kernel
theorem own_d7_9 : decode prog_29_method_1_code 9 = .ok (.aload_n 0, 1) := by decide +kernel
theorem own_d7_10 : decode prog_29_method_1_code 10 = .ok (.aload_n 2, 1) := by decide +kernel
theorem own_d7_11 : decode prog_29_method_1_code 11 = .ok (.putfield 13, 3) := by decide +kernel
theorem own_d7_14 : decode prog_29_method_1_code 14 = .ok (.aload_n 0, 1) := by decide +kernel
theorem own_d7_15 : decode prog_29_method_1_code 15 = .ok (.aload_n 3, 1) := by decide +kernel
theorem own_d7_16 : decode prog_29_method_1_code 16 = .ok (.getstatic 17, 3) := by decide +kernel
theorem own_d7_19 : decode prog_29_method_1_code 19 = .ok (.invokevirtual 23, 3) := by decide +kernel
theorem own_d7_22 : decode prog_29_method_1_code 22 = .ok (.putfield 29, 3) := by decide +kernel
theorem own_d7_25 : decode prog_29_method_1_code 25 = .ok (.return_, 1) := by decide +kernel
theorem own_ef_7 (m : MethodId) (x0 : Addr) (x1 : Int32) (x2 : Addr) (x3 : Addr) : entryFrame m #[(.ref x0), (.int x1), (.ref x2), (.ref x3)] 4 = mkF m 0 #[.val (.ref x0), .val (.int x1), .val (.ref x2), .val (.ref x3)] [] := by first | (simp [entryFrame, mkF, argsToLocals, Value.category]; done) | rfl
def Q7 (Z : State) (r0 : Addr) (p1 : Int32) (r2 : Addr) (r3 : Addr) (u8 : Addr) (cs : Int32) (ar0 : Addr) (kb : ClassId) (d0 : Int32) (h0 : Heap) (n0 : Nat) (v : Option Value) (h : Heap) (L : List Loc) : Prop := v = none ∧ Fr n0 L ∧ Keep h0 h [r0]
set_option maxRecDepth 65536 in
set_option maxHeartbeats 40000000 in
theorem rm7 (l : Launch) (Z : State) (a0 : Array Value) (hw : ∀ d ∈ tables_1, d.before a0 Z = true) (ws : List Jvm.Cond) (r0 : Addr) (p1 : Int32) (r2 : Addr) (r3 : Addr) (u8 : Addr) (cs : Int32) (ar0 : Addr) (kb : ClassId) (d0 : Int32) (h0 : Heap) (n0 : Nat) (Z0 : n0 ≤ h0.size) (S_u8 : Sta Z h0 "java/nio/charset/StandardCharsets" "UTF_8" "Ljava/nio/charset/Charset;" (.ref u8)) (S_in : Sta Z h0 "sun/nio/cs/UTF_8" "INSTANCE" "Lsun/nio/cs/UTF_8;" (.ref u8)) (S_cs : Sta Z h0 "java/lang/String" "COMPACT_STRINGS" "Z" (.int cs)) (hcs : ¬ (cs = (0 : Int32))) (E0 : Exa Z h0 r0 "com/example/orderd/orderd/provider/Reply") (g0 : n0 ≤ r0) (hne : r0 ≠ r3) (hne2 : r0 ≠ ar0) (F_status : Fld Z h0 r0 "com/example/orderd/orderd/provider/Reply" "status" "I" (.int (0 : Int32))) (F_contentType : Fld Z h0 r0 "com/example/orderd/orderd/provider/Reply" "contentType" "Ljava/lang/String;" .null) (F_body : Fld Z h0 r0 "com/example/orderd/orderd/provider/Reply" "body" "[B" .null) (E3 : Exa Z h0 r3 "java/lang/String") (F_value : Fld Z h0 r3 "java/lang/String" "value" "[B" (.ref ar0)) (F_coder : Fld Z h0 r3 "java/lang/String" "coder" "B" (.int (0 : Int32))) (VB : Arv Z h0 ar0 kb .byte (1 : Int32) [(.int d0)] (.int (0 : Int32))) (EB : Exa Z h0 ar0 "[B") :
    MetFree l (⟨"com/example/orderd/orderd/provider/Reply", "<init>", "(ILjava/lang/String;Ljava/lang/String;)V"⟩ : MethodName) (head1 (Jvm.Cond.code (⟨"com/example/orderd/orderd/provider/Reply", "<init>", "(ILjava/lang/String;Ljava/lang/String;)V"⟩ : MethodName) prog_29_method_1_code 4 none :: ws) ({ frames := 5, cells := 1, slots := 2, locals := 78 } : Room)) (fun a U => a = #[(.ref r0), (.int p1), (.ref r2), (.ref r3)] ∧ Z.Warmed39 U.vm ∧ U.heap = h0) (fun _ _ _ _ _ => True) (fun _ U o U' => ∃ v L, o = .returned v ∧ Q7 Z r0 p1 r2 r3 u8 cs ar0 kb d0 h0 n0 v U'.heap L ∧ FrameEnd U o U' L ({ frames := 5, cells := 1, slots := 2, locals := 78 } : Room).cells ({ frames := 5, cells := 1, slots := 2, locals := 78 } : Room).slots) := by
  refine MetFree.of_bodySF (plainFor_of_name own_pn3) hisR ?_
  intro p e s m args below meth c s₁ Bd hml0 hP hK
  obtain ⟨rfl, hZ, hh⟩ := hP
  have hx := Bd.exec
  have hby := Bd.bytes
  have hml : c.maxLocals = 4 := hml0
  have hown : s.vm.findClass "com/example/orderd/orderd/provider/Reply" = some m.cls := findClass_of_methodNamed Bd.named
  have hnm := (name_of_methodNamed Bd.named Bd.method).1
  have X0 : Stand p l e ({ frames := 5, cells := 1, slots := 2, locals := 78 } : Room) s m #[(.ref r0), (.int p1), (.ref r2), (.ref r3)] below meth c s₁ [] 0 0 := Stand.of_body Bd
  have e0 : s₁.heap = h0 := by rw [← hh, Bd.state]; rfl
  have N0 := Fr.nil n0
  have KR : Keep h0 h0 [r0] := Keep.refl h0 _
  show Good p e below (fun o U' => ∃ v L, o = .returned v ∧ Q7 Z r0 p1 r2 r3 u8 cs ar0 kb d0 h0 n0 v U'.heap L ∧ FrameEnd s o U' L ({ frames := 5, cells := 1, slots := 2, locals := 78 } : Room).cells ({ frames := 5, cells := 1, slots := 2, locals := 78 } : Room).slots) _
  refine Good.back (S' := s₁.setTop (mkF m 0 #[.val (.ref r0), .val (.int p1), .val (.ref r2), .val (.ref r3)] [])) (fun t k => castTop (own_ef_7 m r0 p1 r2 r3) k) ?_
  show Good p e below _ (s₁.setTop (mkF m 0 #[.val (.ref r0), .val (.int p1), .val (.ref r2), .val (.ref r3)] []))
  refine Good.back (fun _ k => XS.aloadN X0.here hx rfl (hb hby own_d7_0) rfl rfl k) ?_
  show Good p e below _ (s₁.setTop (mkF m 1 #[.val (.ref r0), .val (.int p1), .val (.ref r2), .val (.ref r3)] [(.ref r0)]))
  obtain ⟨T1, X1, e1, st1⟩ := initO X0 hx hZ hown (hw _ (List.mem_of_getElem? (i := 39) rfl)) (hw _ (List.mem_of_getElem? (i := 21) rfl)) (hw _ (List.mem_of_getElem? (i := 22) rfl)) e0 (g := (mkF m 1 #[.val (.ref r0), .val (.int p1), .val (.ref r2), .val (.ref r3)] [(.ref r0)])) rfl (by rw [hml]; rfl) rfl (hb hby own_d7_1) (by decide) (W := 0) (by show 2 * 0 + _ ≤ _; exact Nat.le_of_eq rfl) (by decide)
  refine Good.back st1 ?_
  show Good p e below _ (T1.setTop (mkF m 4 #[.val (.ref r0), .val (.int p1), .val (.ref r2), .val (.ref r3)] []))
  refine Good.back (fun _ k => XS.aloadN X1.here hx rfl (hb hby own_d7_4) rfl rfl k) ?_
  show Good p e below _ (T1.setTop (mkF m 5 #[.val (.ref r0), .val (.int p1), .val (.ref r2), .val (.ref r3)] [(.ref r0)]))
  refine Good.back (fun _ k => XS.iloadN X1.here hx rfl (hb hby own_d7_5) rfl k) ?_
  show Good p e below _ (T1.setTop (mkF m 6 #[.val (.ref r0), .val (.int p1), .val (.ref r2), .val (.ref r3)] [(.int p1), (.ref r0)]))
  obtain ⟨T2, h2, X2, e2, W2, st2⟩ := putF X1 hx hZ hown (host := "") (Or.inl (hw _ (List.mem_of_getElem? (i := 40) rfl))) Via.refl e1 F_status E0 (Or.inr ⟨(hw _ (List.mem_of_getElem? (i := 41) rfl)), rfl, hnm⟩) (hw _ (List.mem_of_getElem? (i := 2) rfl)) (ty := .int) (by decide) rfl rfl (g := (mkF m 6 #[.val (.ref r0), .val (.int p1), .val (.ref r2), .val (.ref r3)] [(.int p1), (.ref r0)])) rfl rfl (hb hby own_d7_6)
  refine Good.back st2 ?_
  have f_3 : Fld Z h2 r0 "com/example/orderd/orderd/provider/Reply" "status" "I" (.int p1) := Fld.same W2 F_status
  have N2 := Fr.snoc X2 N0 g0
  have Z4 : n0 ≤ h2.size := Nat.le_trans Z0 (Keep.of_wr W2).1
  have K5 : Keep h0 h2 [r0] := KR.wr W2 (Or.inl (List.mem_of_getElem? (i := 0) rfl))
  show Good p e below _ (T2.setTop (mkF m 9 #[.val (.ref r0), .val (.int p1), .val (.ref r2), .val (.ref r3)] []))
  refine Good.back (fun _ k => XS.aloadN X2.here hx rfl (hb hby own_d7_9) rfl rfl k) ?_
  show Good p e below _ (T2.setTop (mkF m 10 #[.val (.ref r0), .val (.int p1), .val (.ref r2), .val (.ref r3)] [(.ref r0)]))
  refine Good.back (fun _ k => XS.aloadN X2.here hx rfl (hb hby own_d7_10) rfl rfl k) ?_
  show Good p e below _ (T2.setTop (mkF m 11 #[.val (.ref r0), .val (.int p1), .val (.ref r2), .val (.ref r3)] [(.ref r2), (.ref r0)]))
  have f_6 : Fld Z h2 r0 "com/example/orderd/orderd/provider/Reply" "contentType" "Ljava/lang/String;" .null := Fld.other W2 F_contentType (Or.inr (slot_ne (Or.inr (hw _ (List.mem_of_getElem? (i := 43) rfl))) (Or.inr (hw _ (List.mem_of_getElem? (i := 41) rfl))) (by decide) (t := (.object "java/lang/String")) (t' := .int) (by decide) (by decide)))
  have f_7 : Exa Z h2 r0 "com/example/orderd/orderd/provider/Reply" := Exa.wr W2 E0
  obtain ⟨T8, h8, X8, e8, W8, st8⟩ := putF X2 hx hZ hown (host := "") (Or.inl (hw _ (List.mem_of_getElem? (i := 42) rfl))) Via.refl e2 f_6 f_7 (Or.inr ⟨(hw _ (List.mem_of_getElem? (i := 43) rfl)), rfl, hnm⟩) (hw _ (List.mem_of_getElem? (i := 2) rfl)) (ty := (.object "java/lang/String")) (by decide) rfl rfl (g := (mkF m 11 #[.val (.ref r0), .val (.int p1), .val (.ref r2), .val (.ref r3)] [(.ref r2), (.ref r0)])) rfl rfl (hb hby own_d7_11)
  refine Good.back st8 ?_
  have f_9 : Fld Z h8 r0 "com/example/orderd/orderd/provider/Reply" "contentType" "Ljava/lang/String;" (.ref r2) := Fld.same W8 f_6
  have N8 := Fr.snoc X8 N2 g0
  have Z10 : n0 ≤ h8.size := Nat.le_trans Z4 (Keep.of_wr W8).1
  have K11 : Keep h0 h8 [r0] := K5.wr W8 (Or.inl (List.mem_of_getElem? (i := 0) rfl))
  show Good p e below _ (T8.setTop (mkF m 14 #[.val (.ref r0), .val (.int p1), .val (.ref r2), .val (.ref r3)] []))
  refine Good.back (fun _ k => XS.aloadN X8.here hx rfl (hb hby own_d7_14) rfl rfl k) ?_
  show Good p e below _ (T8.setTop (mkF m 15 #[.val (.ref r0), .val (.int p1), .val (.ref r2), .val (.ref r3)] [(.ref r0)]))
  refine Good.back (fun _ k => XS.aloadN X8.here hx rfl (hb hby own_d7_15) rfl rfl k) ?_
  show Good p e below _ (T8.setTop (mkF m 16 #[.val (.ref r0), .val (.int p1), .val (.ref r2), .val (.ref r3)] [(.ref r3), (.ref r0)]))
  have f_12 : Sta Z h2 "java/nio/charset/StandardCharsets" "UTF_8" "Ljava/nio/charset/Charset;" (.ref u8) := Sta.wr W2 S_u8
  have f_13 : Sta Z h8 "java/nio/charset/StandardCharsets" "UTF_8" "Ljava/nio/charset/Charset;" (.ref u8) := Sta.wr W8 f_12
  obtain ⟨T14, X14, e14, st14⟩ := getS2 X8 hx hZ hown (host := "") (Or.inl (hw _ (List.mem_of_getElem? (i := 44) rfl))) Via.refl e8 f_13 (g := (mkF m 16 #[.val (.ref r0), .val (.int p1), .val (.ref r2), .val (.ref r3)] [(.ref r3), (.ref r0)])) rfl (hb hby own_d7_16)
  refine Good.back st14 ?_
  show Good p e below _ (T14.setTop (mkF m 19 #[.val (.ref r0), .val (.int p1), .val (.ref r2), .val (.ref r3)] [(.ref u8), (.ref r3), (.ref r0)]))
  have f_16 : Sta Z h2 "sun/nio/cs/UTF_8" "INSTANCE" "Lsun/nio/cs/UTF_8;" (.ref u8) := Sta.wr W2 S_in
  have f_17 : Sta Z h8 "sun/nio/cs/UTF_8" "INSTANCE" "Lsun/nio/cs/UTF_8;" (.ref u8) := Sta.wr W8 f_16
  have f_18 : Sta Z h2 "java/lang/String" "COMPACT_STRINGS" "Z" (.int cs) := Sta.wr W2 S_cs
  have f_19 : Sta Z h8 "java/lang/String" "COMPACT_STRINGS" "Z" (.int cs) := Sta.wr W8 f_18
  have f_20 : Exa Z h2 r3 "java/lang/String" := Exa.wr W2 E3
  have f_21 : Exa Z h8 r3 "java/lang/String" := Exa.wr W8 f_20
  have f_22 : Fld Z h2 r3 "java/lang/String" "value" "[B" (.ref ar0) := Fld.other W2 F_value (Or.inl (Ne.symm hne))
  have f_23 : Fld Z h8 r3 "java/lang/String" "value" "[B" (.ref ar0) := Fld.other W8 f_22 (Or.inl (Ne.symm hne))
  have f_24 : Fld Z h2 r3 "java/lang/String" "coder" "B" (.int (0 : Int32)) := Fld.other W2 F_coder (Or.inl (Ne.symm hne))
  have f_25 : Fld Z h8 r3 "java/lang/String" "coder" "B" (.int (0 : Int32)) := Fld.other W8 f_24 (Or.inl (Ne.symm hne))
  have f_26 : Arv Z h2 ar0 kb .byte (1 : Int32) [(.int d0)] (.int (0 : Int32)) := Arv.other VB W2 (Ne.symm hne2)
  have f_27 : Arv Z h8 ar0 kb .byte (1 : Int32) [(.int d0)] (.int (0 : Int32)) := Arv.other f_26 W8 (Ne.symm hne2)
  have f_28 : Exa Z h2 ar0 "[B" := Exa.wr W2 EB
  have f_29 : Exa Z h8 ar0 "[B" := Exa.wr W8 f_28
  obtain ⟨cq15, kq15, q15a, q15b, q15c⟩ := isOf hZ e14 f_21
  obtain ⟨_, _, ⟨T15, L15, k15, n15⟩, -, X15, ⟨Lc15, hQ15, l15, y15, z15⟩, st15⟩ := X14.virtualBack hx (y := (⟨"java/lang/String", "getBytes", "(Ljava/nio/charset/Charset;)[B"⟩ : MethodName)) (z := (⟨"java/lang/String", "getBytes", "(Ljava/nio/charset/Charset;)[B"⟩ : MethodName)) hown (mvT hZ (hw _ (List.mem_of_getElem? (i := 46) rfl))) (mvT hZ (hw _ (List.mem_of_getElem? (i := 47) rfl))) (notFace_of_selects (args := #[]) (mvT hZ (hw _ (List.mem_of_getElem? (i := 49) rfl)))) (mvT hZ (hw _ (List.mem_of_getElem? (i := 49) rfl))) (mvT hZ (hw _ (List.mem_of_getElem? (i := 48) rfl))) (by decide) (backOf (W := 1) (rm8 l Z a0 hw [] r3 u8 cs ar0 kb d0 h8 n0 Z10 f_17 f_19 (hcs) f_21 f_23 f_25 f_27 f_29) hZ (hw _ (List.mem_of_getElem? (i := 50) rfl)) (hw _ (List.mem_of_getElem? (i := 5) rfl)) (by decide) (by decide)) q15a q15c (g := (mkF m 19 #[.val (.ref r0), .val (.int p1), .val (.ref r2), .val (.ref r3)] [(.ref u8), (.ref r3), (.ref r0)])) rfl (by rw [hml]; rfl) (Steps.refl _) (argsL := [(.ref u8)]) (rest := [(.ref r0)]) (lenOf own_pd218 rfl) rfl (by show 2 * 0 + _ ≤ _; exact Nat.le_of_eq rfl) (hb hby own_d7_19) (fun _ _ => ⟨rfl, e14, (by decide : 0 + 1 ≤ _), (by decide : 0 + 2 ≤ _)⟩)
  dsimp only [Pt.U, Pt.locs, Pt.cells, Pt.slots] at X15 l15 y15 z15 st15 hQ15
  subst l15 y15 z15
  obtain ⟨ar_15, rfl, N15q, Kq15⟩ := hQ15
  have N15 := Fr.app N8 N15q
  have Z30 : n0 ≤ T15.heap.size := Nat.le_trans Z10 Kq15.1
  have K31 : Keep h0 T15.heap [r0] := K11.trans Kq15 all0
  refine Good.back (fun _ k => st15.trans k) ?_
  show Good p e below _ (T15.setTop (mkF m 22 #[.val (.ref r0), .val (.int p1), .val (.ref r2), .val (.ref r3)] [(.ref ar_15), (.ref r0)]))
  have f_32 : Fld Z h2 r0 "com/example/orderd/orderd/provider/Reply" "body" "[B" .null := Fld.other W2 F_body (Or.inr (slot_ne (Or.inr (hw _ (List.mem_of_getElem? (i := 81) rfl))) (Or.inr (hw _ (List.mem_of_getElem? (i := 41) rfl))) (by decide) (t := (.array .byte)) (t' := .int) (by decide) (by decide)))
  have f_33 : Fld Z h8 r0 "com/example/orderd/orderd/provider/Reply" "body" "[B" .null := Fld.other W8 f_32 (Or.inr (slot_ne (Or.inr (hw _ (List.mem_of_getElem? (i := 81) rfl))) (Or.inr (hw _ (List.mem_of_getElem? (i := 43) rfl))) (by decide) (t := (.array .byte)) (t' := (.object "java/lang/String")) (by decide) (by decide)))
  have f_34 : Fld Z T15.heap r0 "com/example/orderd/orderd/provider/Reply" "body" "[B" .null := Fld.keep f_33 Kq15 nin0
  have f_35 : Exa Z h8 r0 "com/example/orderd/orderd/provider/Reply" := Exa.wr W8 f_7
  have f_36 : Exa Z T15.heap r0 "com/example/orderd/orderd/provider/Reply" := Exa.keep f_35 Kq15
  obtain ⟨T37, h37, X37, e37, W37, st37⟩ := putF X15 hx hZ hown (host := "") (Or.inl (hw _ (List.mem_of_getElem? (i := 80) rfl))) Via.refl rfl f_34 f_36 (Or.inr ⟨(hw _ (List.mem_of_getElem? (i := 81) rfl)), rfl, hnm⟩) (hw _ (List.mem_of_getElem? (i := 2) rfl)) (ty := (.array .byte)) (by decide) rfl rfl (g := (mkF m 22 #[.val (.ref r0), .val (.int p1), .val (.ref r2), .val (.ref r3)] [(.ref ar_15), (.ref r0)])) rfl rfl (hb hby own_d7_22)
  refine Good.back st37 ?_
  have f_38 : Fld Z h37 r0 "com/example/orderd/orderd/provider/Reply" "body" "[B" (.ref ar_15) := Fld.same W37 f_34
  have N37 := Fr.snoc X37 N15 g0
  have Z39 : n0 ≤ h37.size := Nat.le_trans Z30 (Keep.of_wr W37).1
  have K40 : Keep h0 h37 [r0] := K31.wr W37 (Or.inl (List.mem_of_getElem? (i := 0) rfl))
  show Good p e below _ (T37.setTop (mkF m 25 #[.val (.ref r0), .val (.int p1), .val (.ref r2), .val (.ref r3)] []))
  obtain ⟨fs41, hr41, hrun41, hended41, hW41, hsame41⟩ := X37.leave (v := none) (fun _ => rfl)
  refine Good.done (X37.returnOut hx Bd.returns (hb hby own_d7_25) hr41) hrun41 hended41 ⟨_, _, rfl, ?_, ⟨_, rfl⟩, hW41, hsame41.mono (by decide) (by decide)⟩
  show Q7 Z r0 p1 r2 r3 u8 cs ar0 kb d0 h0 n0 _ T37.heap _
  rw [e37]
  exact ⟨rfl, N37, K40⟩
theorem own_pn4 : plainName "com/example/orderd/orderd/provider/Notice" = true := by first | (simp [plainName, overriddenIn]; done) | decide +kernel
theorem own_d15_0 : decode prog_26_method_1_code 0 = .ok (.aload_n 0, 1) := by decide +kernel
theorem own_d15_1 : decode prog_26_method_1_code 1 = .ok (.invokespecial 1, 3) := by decide +kernel
theorem own_d15_4 : decode prog_26_method_1_code 4 = .ok (.aload_n 0, 1) := by decide +kernel
theorem own_d15_5 : decode prog_26_method_1_code 5 = .ok (.aload_n 1, 1) := by decide +kernel
theorem own_d15_6 : decode prog_26_method_1_code 6 = .ok (.putfield 7, 3) := by decide +kernel
theorem own_d15_9 : decode prog_26_method_1_code 9 = .ok (.aload_n 0, 1) := by decide +kernel
theorem own_d15_10 : decode prog_26_method_1_code 10 = .ok (.iload_n 2, 1) := by decide +kernel
theorem own_d15_11 : decode prog_26_method_1_code 11 = .ok (.putfield 13, 3) := by decide +kernel
theorem own_d15_14 : decode prog_26_method_1_code 14 = .ok (.aload_n 0, 1) := by decide +kernel
theorem own_d15_15 : decode prog_26_method_1_code 15 = .ok (.aload_n 3, 1) := by decide +kernel
theorem own_d15_16 : decode prog_26_method_1_code 16 = .ok (.putfield 17, 3) := by decide +kernel
theorem own_d15_19 : decode prog_26_method_1_code 19 = .ok (.aload_n 0, 1) := by decide +kernel
theorem own_d15_20 : decode prog_26_method_1_code 20 = .ok (.aload 4, 2) := by decide +kernel
theorem own_d15_22 : decode prog_26_method_1_code 22 = .ok (.putfield 21, 3) := by decide +kernel
theorem own_d15_25 : decode prog_26_method_1_code 25 = .ok (.aload_n 0, 1) := by decide +kernel
theorem own_d15_26 : decode prog_26_method_1_code 26 = .ok (.aload 5, 2) := by decide +kernel
theorem own_d15_28 : decode prog_26_method_1_code 28 = .ok (.putfield 25, 3) := by decide +kernel
theorem own_d15_31 : decode prog_26_method_1_code 31 = .ok (.aload_n 0, 1) := by decide +kernel
theorem own_d15_32 : decode prog_26_method_1_code 32 = .ok (.aload 6, 2) := by decide +kernel
theorem own_d15_34 : decode prog_26_method_1_code 34 = .ok (.putfield 29, 3) := by decide +kernel
theorem own_d15_37 : decode prog_26_method_1_code 37 = .ok (.aload_n 0, 1) := by decide +kernel
theorem own_d15_38 : decode prog_26_method_1_code 38 = .ok (.iload 7, 2) := by decide +kernel
theorem own_d15_40 : decode prog_26_method_1_code 40 = .ok (.putfield 32, 3) := by decide +kernel
theorem own_d15_43 : decode prog_26_method_1_code 43 = .ok (.return_, 1) := by decide +kernel
theorem own_ef_15_00 (m : MethodId) (x0 : Addr) (x2 : Int32) (x7 : Int32) : entryFrame m #[(.ref x0), .null, (.int x2), .null, .null, .null, .null, (.int x7)] 8 = mkF m 0 #[.val (.ref x0), .val .null, .val (.int x2), .val .null, .val .null, .val .null, .val .null, .val (.int x7)] [] := by first | (simp [entryFrame, mkF, argsToLocals, Value.category]; done) | rfl
def Q15_00 (Z : State) (r0 : Addr) (h0 : Heap) (n0 : Nat) (v : Option Value) (h : Heap) (L : List Loc) : Prop := v = none ∧ Fr n0 L ∧ Keep h0 h [r0] ∧ Fld Z h r0 "com/example/orderd/orderd/provider/Notice" "order" "Lcom/example/orderd/orderd/order/Order;" .null ∧ Fld Z h r0 "com/example/orderd/orderd/provider/Notice" "refund" "Z" (.int (0 : Int32)) ∧ Fld Z h r0 "com/example/orderd/orderd/provider/Notice" "sign" "Ljava/lang/String;" .null ∧ Fld Z h r0 "com/example/orderd/orderd/provider/Notice" "refusal" "Lcom/example/orderd/orderd/provider/Reply;" .null ∧ Fld Z h r0 "com/example/orderd/orderd/provider/Notice" "rejection" "Lcom/example/orderd/orderd/order/Rejection;" .null ∧ Fld Z h r0 "com/example/orderd/orderd/provider/Notice" "reason" "Ljava/lang/String;" .null ∧ Fld Z h r0 "com/example/orderd/orderd/provider/Notice" "badRequest" "Z" (.int (1 : Int32))
set_option maxRecDepth 65536 in
set_option maxHeartbeats 40000000 in
theorem rm15_00 (l : Launch) (Z : State) (a0 : Array Value) (hw : ∀ d ∈ tables_1, d.before a0 Z = true) (ws : List Jvm.Cond) (r0 : Addr) (h0 : Heap) (n0 : Nat) (Z0 : n0 ≤ h0.size) (E0 : Exa Z h0 r0 "com/example/orderd/orderd/provider/Notice") (g0 : n0 ≤ r0) (F_order : Fld Z h0 r0 "com/example/orderd/orderd/provider/Notice" "order" "Lcom/example/orderd/orderd/order/Order;" .null) (F_refund : Fld Z h0 r0 "com/example/orderd/orderd/provider/Notice" "refund" "Z" (.int (0 : Int32))) (F_sign : Fld Z h0 r0 "com/example/orderd/orderd/provider/Notice" "sign" "Ljava/lang/String;" .null) (F_refusal : Fld Z h0 r0 "com/example/orderd/orderd/provider/Notice" "refusal" "Lcom/example/orderd/orderd/provider/Reply;" .null) (F_rejection : Fld Z h0 r0 "com/example/orderd/orderd/provider/Notice" "rejection" "Lcom/example/orderd/orderd/order/Rejection;" .null) (F_reason : Fld Z h0 r0 "com/example/orderd/orderd/provider/Notice" "reason" "Ljava/lang/String;" .null) (F_badRequest : Fld Z h0 r0 "com/example/orderd/orderd/provider/Notice" "badRequest" "Z" (.int (0 : Int32))) :
    MetFree l (⟨"com/example/orderd/orderd/provider/Notice", "<init>", "(Lcom/example/orderd/orderd/order/Order;ZLjava/lang/String;Lcom/example/orderd/orderd/provider/Reply;Lcom/example/orderd/orderd/order/Rejection;Ljava/lang/String;Z)V"⟩ : MethodName) (head1 (Jvm.Cond.code (⟨"com/example/orderd/orderd/provider/Notice", "<init>", "(Lcom/example/orderd/orderd/order/Order;ZLjava/lang/String;Lcom/example/orderd/orderd/provider/Reply;Lcom/example/orderd/orderd/order/Rejection;Ljava/lang/String;Z)V"⟩ : MethodName) prog_26_method_1_code 8 none :: ws) ({ frames := 1, cells := 0, slots := 0, locals := 12 } : Room)) (fun a U => a = #[(.ref r0), .null, (.int (0 : Int32)), .null, .null, .null, .null, (.int (1 : Int32))] ∧ Z.Warmed39 U.vm ∧ U.heap = h0) (fun _ _ _ _ _ => True) (fun _ U o U' => ∃ v L, o = .returned v ∧ Q15_00 Z r0 h0 n0 v U'.heap L ∧ FrameEnd U o U' L ({ frames := 1, cells := 0, slots := 0, locals := 12 } : Room).cells ({ frames := 1, cells := 0, slots := 0, locals := 12 } : Room).slots) := by
  refine MetFree.of_bodySF (plainFor_of_name own_pn4) hisR ?_
  intro p e s m args below meth c s₁ Bd hml0 hP hK
  obtain ⟨rfl, hZ, hh⟩ := hP
  have hx := Bd.exec
  have hby := Bd.bytes
  have hml : c.maxLocals = 8 := hml0
  have hown : s.vm.findClass "com/example/orderd/orderd/provider/Notice" = some m.cls := findClass_of_methodNamed Bd.named
  have hnm := (name_of_methodNamed Bd.named Bd.method).1
  have X0 : Stand p l e ({ frames := 1, cells := 0, slots := 0, locals := 12 } : Room) s m #[(.ref r0), .null, (.int (0 : Int32)), .null, .null, .null, .null, (.int (1 : Int32))] below meth c s₁ [] 0 0 := Stand.of_body Bd
  have e0 : s₁.heap = h0 := by rw [← hh, Bd.state]; rfl
  have N0 := Fr.nil n0
  have KR : Keep h0 h0 [r0] := Keep.refl h0 _
  show Good p e below (fun o U' => ∃ v L, o = .returned v ∧ Q15_00 Z r0 h0 n0 v U'.heap L ∧ FrameEnd s o U' L ({ frames := 1, cells := 0, slots := 0, locals := 12 } : Room).cells ({ frames := 1, cells := 0, slots := 0, locals := 12 } : Room).slots) _
  refine Good.back (S' := s₁.setTop (mkF m 0 #[.val (.ref r0), .val .null, .val (.int (0 : Int32)), .val .null, .val .null, .val .null, .val .null, .val (.int (1 : Int32))] [])) (fun t k => castTop (own_ef_15_00 m r0 (0 : Int32) (1 : Int32)) k) ?_
  show Good p e below _ (s₁.setTop (mkF m 0 #[.val (.ref r0), .val .null, .val (.int (0 : Int32)), .val .null, .val .null, .val .null, .val .null, .val (.int (1 : Int32))] []))
  refine Good.back (fun _ k => XS.aloadN X0.here hx rfl (hb hby own_d15_0) rfl rfl k) ?_
  show Good p e below _ (s₁.setTop (mkF m 1 #[.val (.ref r0), .val .null, .val (.int (0 : Int32)), .val .null, .val .null, .val .null, .val .null, .val (.int (1 : Int32))] [(.ref r0)]))
  obtain ⟨T1, X1, e1, st1⟩ := initO X0 hx hZ hown (hw _ (List.mem_of_getElem? (i := 91) rfl)) (hw _ (List.mem_of_getElem? (i := 21) rfl)) (hw _ (List.mem_of_getElem? (i := 22) rfl)) e0 (g := (mkF m 1 #[.val (.ref r0), .val .null, .val (.int (0 : Int32)), .val .null, .val .null, .val .null, .val .null, .val (.int (1 : Int32))] [(.ref r0)])) rfl (by rw [hml]; rfl) rfl (hb hby own_d15_1) (by decide) (W := 0) (by show 2 * 0 + _ ≤ _; exact Nat.le_of_eq rfl) (by decide)
  refine Good.back st1 ?_
  show Good p e below _ (T1.setTop (mkF m 4 #[.val (.ref r0), .val .null, .val (.int (0 : Int32)), .val .null, .val .null, .val .null, .val .null, .val (.int (1 : Int32))] []))
  refine Good.back (fun _ k => XS.aloadN X1.here hx rfl (hb hby own_d15_4) rfl rfl k) ?_
  show Good p e below _ (T1.setTop (mkF m 5 #[.val (.ref r0), .val .null, .val (.int (0 : Int32)), .val .null, .val .null, .val .null, .val .null, .val (.int (1 : Int32))] [(.ref r0)]))
  refine Good.back (fun _ k => XS.aloadN X1.here hx rfl (hb hby own_d15_5) rfl rfl k) ?_
  show Good p e below _ (T1.setTop (mkF m 6 #[.val (.ref r0), .val .null, .val (.int (0 : Int32)), .val .null, .val .null, .val .null, .val .null, .val (.int (1 : Int32))] [.null, (.ref r0)]))
  obtain ⟨T2, h2, X2, e2, W2, st2⟩ := putF X1 hx hZ hown (host := "") (Or.inl (hw _ (List.mem_of_getElem? (i := 92) rfl))) Via.refl e1 F_order E0 (Or.inr ⟨(hw _ (List.mem_of_getElem? (i := 93) rfl)), rfl, hnm⟩) (hw _ (List.mem_of_getElem? (i := 87) rfl)) (ty := (.object "com/example/orderd/orderd/order/Order")) (by decide) rfl rfl (g := (mkF m 6 #[.val (.ref r0), .val .null, .val (.int (0 : Int32)), .val .null, .val .null, .val .null, .val .null, .val (.int (1 : Int32))] [.null, (.ref r0)])) rfl rfl (hb hby own_d15_6)
  refine Good.back st2 ?_
  have f_3 : Fld Z h2 r0 "com/example/orderd/orderd/provider/Notice" "order" "Lcom/example/orderd/orderd/order/Order;" .null := Fld.same W2 F_order
  have N2 := Fr.snoc X2 N0 g0
  have Z4 : n0 ≤ h2.size := Nat.le_trans Z0 (Keep.of_wr W2).1
  have K5 : Keep h0 h2 [r0] := KR.wr W2 (Or.inl (List.mem_of_getElem? (i := 0) rfl))
  show Good p e below _ (T2.setTop (mkF m 9 #[.val (.ref r0), .val .null, .val (.int (0 : Int32)), .val .null, .val .null, .val .null, .val .null, .val (.int (1 : Int32))] []))
  refine Good.back (fun _ k => XS.aloadN X2.here hx rfl (hb hby own_d15_9) rfl rfl k) ?_
  show Good p e below _ (T2.setTop (mkF m 10 #[.val (.ref r0), .val .null, .val (.int (0 : Int32)), .val .null, .val .null, .val .null, .val .null, .val (.int (1 : Int32))] [(.ref r0)]))
  refine Good.back (fun _ k => XS.iloadN X2.here hx rfl (hb hby own_d15_10) rfl k) ?_
  show Good p e below _ (T2.setTop (mkF m 11 #[.val (.ref r0), .val .null, .val (.int (0 : Int32)), .val .null, .val .null, .val .null, .val .null, .val (.int (1 : Int32))] [(.int (0 : Int32)), (.ref r0)]))
  have f_6 : Fld Z h2 r0 "com/example/orderd/orderd/provider/Notice" "refund" "Z" (.int (0 : Int32)) := Fld.other W2 F_refund (Or.inr (slot_ne (Or.inr (hw _ (List.mem_of_getElem? (i := 95) rfl))) (Or.inr (hw _ (List.mem_of_getElem? (i := 93) rfl))) (by decide) (t := .boolean) (t' := (.object "com/example/orderd/orderd/order/Order")) (by decide) (by decide)))
  have f_7 : Exa Z h2 r0 "com/example/orderd/orderd/provider/Notice" := Exa.wr W2 E0
  obtain ⟨T8, h8, X8, e8, W8, st8⟩ := putFN X2 hx hZ hown (hw _ (List.mem_of_getElem? (i := 94) rfl)) Via.refl e2 f_6 f_7 (Or.inr ⟨(hw _ (List.mem_of_getElem? (i := 95) rfl)), rfl, hnm⟩) (hw _ (List.mem_of_getElem? (i := 87) rfl)) (ty := .boolean) (v' := (.int (0 : Int32))) (by decide) rfl (by decide) (g := (mkF m 11 #[.val (.ref r0), .val .null, .val (.int (0 : Int32)), .val .null, .val .null, .val .null, .val .null, .val (.int (1 : Int32))] [(.int (0 : Int32)), (.ref r0)])) rfl rfl (hb hby own_d15_11)
  refine Good.back st8 ?_
  have f_9 : Fld Z h8 r0 "com/example/orderd/orderd/provider/Notice" "refund" "Z" (.int (0 : Int32)) := Fld.same W8 f_6
  have N8 := Fr.snoc X8 N2 g0
  have Z10 : n0 ≤ h8.size := Nat.le_trans Z4 (Keep.of_wr W8).1
  have K11 : Keep h0 h8 [r0] := K5.wr W8 (Or.inl (List.mem_of_getElem? (i := 0) rfl))
  show Good p e below _ (T8.setTop (mkF m 14 #[.val (.ref r0), .val .null, .val (.int (0 : Int32)), .val .null, .val .null, .val .null, .val .null, .val (.int (1 : Int32))] []))
  refine Good.back (fun _ k => XS.aloadN X8.here hx rfl (hb hby own_d15_14) rfl rfl k) ?_
  show Good p e below _ (T8.setTop (mkF m 15 #[.val (.ref r0), .val .null, .val (.int (0 : Int32)), .val .null, .val .null, .val .null, .val .null, .val (.int (1 : Int32))] [(.ref r0)]))
  refine Good.back (fun _ k => XS.aloadN X8.here hx rfl (hb hby own_d15_15) rfl rfl k) ?_
  show Good p e below _ (T8.setTop (mkF m 16 #[.val (.ref r0), .val .null, .val (.int (0 : Int32)), .val .null, .val .null, .val .null, .val .null, .val (.int (1 : Int32))] [.null, (.ref r0)]))
  have f_12 : Fld Z h2 r0 "com/example/orderd/orderd/provider/Notice" "sign" "Ljava/lang/String;" .null := Fld.other W2 F_sign (Or.inr (slot_ne (Or.inr (hw _ (List.mem_of_getElem? (i := 97) rfl))) (Or.inr (hw _ (List.mem_of_getElem? (i := 93) rfl))) (by decide) (t := (.object "java/lang/String")) (t' := (.object "com/example/orderd/orderd/order/Order")) (by decide) (by decide)))
  have f_13 : Fld Z h8 r0 "com/example/orderd/orderd/provider/Notice" "sign" "Ljava/lang/String;" .null := Fld.other W8 f_12 (Or.inr (slot_ne (Or.inr (hw _ (List.mem_of_getElem? (i := 97) rfl))) (Or.inr (hw _ (List.mem_of_getElem? (i := 95) rfl))) (by decide) (t := (.object "java/lang/String")) (t' := .boolean) (by decide) (by decide)))
  have f_14 : Exa Z h8 r0 "com/example/orderd/orderd/provider/Notice" := Exa.wr W8 f_7
  obtain ⟨T15, h15, X15, e15, W15, st15⟩ := putF X8 hx hZ hown (host := "") (Or.inl (hw _ (List.mem_of_getElem? (i := 96) rfl))) Via.refl e8 f_13 f_14 (Or.inr ⟨(hw _ (List.mem_of_getElem? (i := 97) rfl)), rfl, hnm⟩) (hw _ (List.mem_of_getElem? (i := 87) rfl)) (ty := (.object "java/lang/String")) (by decide) rfl rfl (g := (mkF m 16 #[.val (.ref r0), .val .null, .val (.int (0 : Int32)), .val .null, .val .null, .val .null, .val .null, .val (.int (1 : Int32))] [.null, (.ref r0)])) rfl rfl (hb hby own_d15_16)
  refine Good.back st15 ?_
  have f_16 : Fld Z h15 r0 "com/example/orderd/orderd/provider/Notice" "sign" "Ljava/lang/String;" .null := Fld.same W15 f_13
  have N15 := Fr.snoc X15 N8 g0
  have Z17 : n0 ≤ h15.size := Nat.le_trans Z10 (Keep.of_wr W15).1
  have K18 : Keep h0 h15 [r0] := K11.wr W15 (Or.inl (List.mem_of_getElem? (i := 0) rfl))
  show Good p e below _ (T15.setTop (mkF m 19 #[.val (.ref r0), .val .null, .val (.int (0 : Int32)), .val .null, .val .null, .val .null, .val .null, .val (.int (1 : Int32))] []))
  refine Good.back (fun _ k => XS.aloadN X15.here hx rfl (hb hby own_d15_19) rfl rfl k) ?_
  show Good p e below _ (T15.setTop (mkF m 20 #[.val (.ref r0), .val .null, .val (.int (0 : Int32)), .val .null, .val .null, .val .null, .val .null, .val (.int (1 : Int32))] [(.ref r0)]))
  refine Good.back (fun _ k => XS.aload X15.here hx rfl (hb hby own_d15_20) rfl rfl k) ?_
  show Good p e below _ (T15.setTop (mkF m 22 #[.val (.ref r0), .val .null, .val (.int (0 : Int32)), .val .null, .val .null, .val .null, .val .null, .val (.int (1 : Int32))] [.null, (.ref r0)]))
  have f_19 : Fld Z h2 r0 "com/example/orderd/orderd/provider/Notice" "refusal" "Lcom/example/orderd/orderd/provider/Reply;" .null := Fld.other W2 F_refusal (Or.inr (slot_ne (Or.inr (hw _ (List.mem_of_getElem? (i := 99) rfl))) (Or.inr (hw _ (List.mem_of_getElem? (i := 93) rfl))) (by decide) (t := (.object "com/example/orderd/orderd/provider/Reply")) (t' := (.object "com/example/orderd/orderd/order/Order")) (by decide) (by decide)))
  have f_20 : Fld Z h8 r0 "com/example/orderd/orderd/provider/Notice" "refusal" "Lcom/example/orderd/orderd/provider/Reply;" .null := Fld.other W8 f_19 (Or.inr (slot_ne (Or.inr (hw _ (List.mem_of_getElem? (i := 99) rfl))) (Or.inr (hw _ (List.mem_of_getElem? (i := 95) rfl))) (by decide) (t := (.object "com/example/orderd/orderd/provider/Reply")) (t' := .boolean) (by decide) (by decide)))
  have f_21 : Fld Z h15 r0 "com/example/orderd/orderd/provider/Notice" "refusal" "Lcom/example/orderd/orderd/provider/Reply;" .null := Fld.other W15 f_20 (Or.inr (slot_ne (Or.inr (hw _ (List.mem_of_getElem? (i := 99) rfl))) (Or.inr (hw _ (List.mem_of_getElem? (i := 97) rfl))) (by decide) (t := (.object "com/example/orderd/orderd/provider/Reply")) (t' := (.object "java/lang/String")) (by decide) (by decide)))
  have f_22 : Exa Z h15 r0 "com/example/orderd/orderd/provider/Notice" := Exa.wr W15 f_14
  obtain ⟨T23, h23, X23, e23, W23, st23⟩ := putF X15 hx hZ hown (host := "") (Or.inl (hw _ (List.mem_of_getElem? (i := 98) rfl))) Via.refl e15 f_21 f_22 (Or.inr ⟨(hw _ (List.mem_of_getElem? (i := 99) rfl)), rfl, hnm⟩) (hw _ (List.mem_of_getElem? (i := 87) rfl)) (ty := (.object "com/example/orderd/orderd/provider/Reply")) (by decide) rfl rfl (g := (mkF m 22 #[.val (.ref r0), .val .null, .val (.int (0 : Int32)), .val .null, .val .null, .val .null, .val .null, .val (.int (1 : Int32))] [.null, (.ref r0)])) rfl rfl (hb hby own_d15_22)
  refine Good.back st23 ?_
  have f_24 : Fld Z h23 r0 "com/example/orderd/orderd/provider/Notice" "refusal" "Lcom/example/orderd/orderd/provider/Reply;" .null := Fld.same W23 f_21
  have N23 := Fr.snoc X23 N15 g0
  have Z25 : n0 ≤ h23.size := Nat.le_trans Z17 (Keep.of_wr W23).1
  have K26 : Keep h0 h23 [r0] := K18.wr W23 (Or.inl (List.mem_of_getElem? (i := 0) rfl))
  show Good p e below _ (T23.setTop (mkF m 25 #[.val (.ref r0), .val .null, .val (.int (0 : Int32)), .val .null, .val .null, .val .null, .val .null, .val (.int (1 : Int32))] []))
  refine Good.back (fun _ k => XS.aloadN X23.here hx rfl (hb hby own_d15_25) rfl rfl k) ?_
  show Good p e below _ (T23.setTop (mkF m 26 #[.val (.ref r0), .val .null, .val (.int (0 : Int32)), .val .null, .val .null, .val .null, .val .null, .val (.int (1 : Int32))] [(.ref r0)]))
  refine Good.back (fun _ k => XS.aload X23.here hx rfl (hb hby own_d15_26) rfl rfl k) ?_
  show Good p e below _ (T23.setTop (mkF m 28 #[.val (.ref r0), .val .null, .val (.int (0 : Int32)), .val .null, .val .null, .val .null, .val .null, .val (.int (1 : Int32))] [.null, (.ref r0)]))
  have f_27 : Fld Z h2 r0 "com/example/orderd/orderd/provider/Notice" "rejection" "Lcom/example/orderd/orderd/order/Rejection;" .null := Fld.other W2 F_rejection (Or.inr (slot_ne (Or.inr (hw _ (List.mem_of_getElem? (i := 101) rfl))) (Or.inr (hw _ (List.mem_of_getElem? (i := 93) rfl))) (by decide) (t := (.object "com/example/orderd/orderd/order/Rejection")) (t' := (.object "com/example/orderd/orderd/order/Order")) (by decide) (by decide)))
  have f_28 : Fld Z h8 r0 "com/example/orderd/orderd/provider/Notice" "rejection" "Lcom/example/orderd/orderd/order/Rejection;" .null := Fld.other W8 f_27 (Or.inr (slot_ne (Or.inr (hw _ (List.mem_of_getElem? (i := 101) rfl))) (Or.inr (hw _ (List.mem_of_getElem? (i := 95) rfl))) (by decide) (t := (.object "com/example/orderd/orderd/order/Rejection")) (t' := .boolean) (by decide) (by decide)))
  have f_29 : Fld Z h15 r0 "com/example/orderd/orderd/provider/Notice" "rejection" "Lcom/example/orderd/orderd/order/Rejection;" .null := Fld.other W15 f_28 (Or.inr (slot_ne (Or.inr (hw _ (List.mem_of_getElem? (i := 101) rfl))) (Or.inr (hw _ (List.mem_of_getElem? (i := 97) rfl))) (by decide) (t := (.object "com/example/orderd/orderd/order/Rejection")) (t' := (.object "java/lang/String")) (by decide) (by decide)))
  have f_30 : Fld Z h23 r0 "com/example/orderd/orderd/provider/Notice" "rejection" "Lcom/example/orderd/orderd/order/Rejection;" .null := Fld.other W23 f_29 (Or.inr (slot_ne (Or.inr (hw _ (List.mem_of_getElem? (i := 101) rfl))) (Or.inr (hw _ (List.mem_of_getElem? (i := 99) rfl))) (by decide) (t := (.object "com/example/orderd/orderd/order/Rejection")) (t' := (.object "com/example/orderd/orderd/provider/Reply")) (by decide) (by decide)))
  have f_31 : Exa Z h23 r0 "com/example/orderd/orderd/provider/Notice" := Exa.wr W23 f_22
  obtain ⟨T32, h32, X32, e32, W32, st32⟩ := putF X23 hx hZ hown (host := "") (Or.inl (hw _ (List.mem_of_getElem? (i := 100) rfl))) Via.refl e23 f_30 f_31 (Or.inr ⟨(hw _ (List.mem_of_getElem? (i := 101) rfl)), rfl, hnm⟩) (hw _ (List.mem_of_getElem? (i := 87) rfl)) (ty := (.object "com/example/orderd/orderd/order/Rejection")) (by decide) rfl rfl (g := (mkF m 28 #[.val (.ref r0), .val .null, .val (.int (0 : Int32)), .val .null, .val .null, .val .null, .val .null, .val (.int (1 : Int32))] [.null, (.ref r0)])) rfl rfl (hb hby own_d15_28)
  refine Good.back st32 ?_
  have f_33 : Fld Z h32 r0 "com/example/orderd/orderd/provider/Notice" "rejection" "Lcom/example/orderd/orderd/order/Rejection;" .null := Fld.same W32 f_30
  have N32 := Fr.snoc X32 N23 g0
  have Z34 : n0 ≤ h32.size := Nat.le_trans Z25 (Keep.of_wr W32).1
  have K35 : Keep h0 h32 [r0] := K26.wr W32 (Or.inl (List.mem_of_getElem? (i := 0) rfl))
  show Good p e below _ (T32.setTop (mkF m 31 #[.val (.ref r0), .val .null, .val (.int (0 : Int32)), .val .null, .val .null, .val .null, .val .null, .val (.int (1 : Int32))] []))
  refine Good.back (fun _ k => XS.aloadN X32.here hx rfl (hb hby own_d15_31) rfl rfl k) ?_
  show Good p e below _ (T32.setTop (mkF m 32 #[.val (.ref r0), .val .null, .val (.int (0 : Int32)), .val .null, .val .null, .val .null, .val .null, .val (.int (1 : Int32))] [(.ref r0)]))
  refine Good.back (fun _ k => XS.aload X32.here hx rfl (hb hby own_d15_32) rfl rfl k) ?_
  show Good p e below _ (T32.setTop (mkF m 34 #[.val (.ref r0), .val .null, .val (.int (0 : Int32)), .val .null, .val .null, .val .null, .val .null, .val (.int (1 : Int32))] [.null, (.ref r0)]))
  have f_36 : Fld Z h2 r0 "com/example/orderd/orderd/provider/Notice" "reason" "Ljava/lang/String;" .null := Fld.other W2 F_reason (Or.inr (slot_ne (Or.inr (hw _ (List.mem_of_getElem? (i := 103) rfl))) (Or.inr (hw _ (List.mem_of_getElem? (i := 93) rfl))) (by decide) (t := (.object "java/lang/String")) (t' := (.object "com/example/orderd/orderd/order/Order")) (by decide) (by decide)))
  have f_37 : Fld Z h8 r0 "com/example/orderd/orderd/provider/Notice" "reason" "Ljava/lang/String;" .null := Fld.other W8 f_36 (Or.inr (slot_ne (Or.inr (hw _ (List.mem_of_getElem? (i := 103) rfl))) (Or.inr (hw _ (List.mem_of_getElem? (i := 95) rfl))) (by decide) (t := (.object "java/lang/String")) (t' := .boolean) (by decide) (by decide)))
  have f_38 : Fld Z h15 r0 "com/example/orderd/orderd/provider/Notice" "reason" "Ljava/lang/String;" .null := Fld.other W15 f_37 (Or.inr (slot_ne (Or.inr (hw _ (List.mem_of_getElem? (i := 103) rfl))) (Or.inr (hw _ (List.mem_of_getElem? (i := 97) rfl))) (by decide) (t := (.object "java/lang/String")) (t' := (.object "java/lang/String")) (by decide) (by decide)))
  have f_39 : Fld Z h23 r0 "com/example/orderd/orderd/provider/Notice" "reason" "Ljava/lang/String;" .null := Fld.other W23 f_38 (Or.inr (slot_ne (Or.inr (hw _ (List.mem_of_getElem? (i := 103) rfl))) (Or.inr (hw _ (List.mem_of_getElem? (i := 99) rfl))) (by decide) (t := (.object "java/lang/String")) (t' := (.object "com/example/orderd/orderd/provider/Reply")) (by decide) (by decide)))
  have f_40 : Fld Z h32 r0 "com/example/orderd/orderd/provider/Notice" "reason" "Ljava/lang/String;" .null := Fld.other W32 f_39 (Or.inr (slot_ne (Or.inr (hw _ (List.mem_of_getElem? (i := 103) rfl))) (Or.inr (hw _ (List.mem_of_getElem? (i := 101) rfl))) (by decide) (t := (.object "java/lang/String")) (t' := (.object "com/example/orderd/orderd/order/Rejection")) (by decide) (by decide)))
  have f_41 : Exa Z h32 r0 "com/example/orderd/orderd/provider/Notice" := Exa.wr W32 f_31
  obtain ⟨T42, h42, X42, e42, W42, st42⟩ := putF X32 hx hZ hown (host := "") (Or.inl (hw _ (List.mem_of_getElem? (i := 102) rfl))) Via.refl e32 f_40 f_41 (Or.inr ⟨(hw _ (List.mem_of_getElem? (i := 103) rfl)), rfl, hnm⟩) (hw _ (List.mem_of_getElem? (i := 87) rfl)) (ty := (.object "java/lang/String")) (by decide) rfl rfl (g := (mkF m 34 #[.val (.ref r0), .val .null, .val (.int (0 : Int32)), .val .null, .val .null, .val .null, .val .null, .val (.int (1 : Int32))] [.null, (.ref r0)])) rfl rfl (hb hby own_d15_34)
  refine Good.back st42 ?_
  have f_43 : Fld Z h42 r0 "com/example/orderd/orderd/provider/Notice" "reason" "Ljava/lang/String;" .null := Fld.same W42 f_40
  have N42 := Fr.snoc X42 N32 g0
  have Z44 : n0 ≤ h42.size := Nat.le_trans Z34 (Keep.of_wr W42).1
  have K45 : Keep h0 h42 [r0] := K35.wr W42 (Or.inl (List.mem_of_getElem? (i := 0) rfl))
  show Good p e below _ (T42.setTop (mkF m 37 #[.val (.ref r0), .val .null, .val (.int (0 : Int32)), .val .null, .val .null, .val .null, .val .null, .val (.int (1 : Int32))] []))
  refine Good.back (fun _ k => XS.aloadN X42.here hx rfl (hb hby own_d15_37) rfl rfl k) ?_
  show Good p e below _ (T42.setTop (mkF m 38 #[.val (.ref r0), .val .null, .val (.int (0 : Int32)), .val .null, .val .null, .val .null, .val .null, .val (.int (1 : Int32))] [(.ref r0)]))
  refine Good.back (fun _ k => XS.iload X42.here hx rfl (hb hby own_d15_38) rfl k) ?_
  show Good p e below _ (T42.setTop (mkF m 40 #[.val (.ref r0), .val .null, .val (.int (0 : Int32)), .val .null, .val .null, .val .null, .val .null, .val (.int (1 : Int32))] [(.int (1 : Int32)), (.ref r0)]))
  have f_46 : Fld Z h2 r0 "com/example/orderd/orderd/provider/Notice" "badRequest" "Z" (.int (0 : Int32)) := Fld.other W2 F_badRequest (Or.inr (slot_ne (Or.inr (hw _ (List.mem_of_getElem? (i := 105) rfl))) (Or.inr (hw _ (List.mem_of_getElem? (i := 93) rfl))) (by decide) (t := .boolean) (t' := (.object "com/example/orderd/orderd/order/Order")) (by decide) (by decide)))
  have f_47 : Fld Z h8 r0 "com/example/orderd/orderd/provider/Notice" "badRequest" "Z" (.int (0 : Int32)) := Fld.other W8 f_46 (Or.inr (slot_ne (Or.inr (hw _ (List.mem_of_getElem? (i := 105) rfl))) (Or.inr (hw _ (List.mem_of_getElem? (i := 95) rfl))) (by decide) (t := .boolean) (t' := .boolean) (by decide) (by decide)))
  have f_48 : Fld Z h15 r0 "com/example/orderd/orderd/provider/Notice" "badRequest" "Z" (.int (0 : Int32)) := Fld.other W15 f_47 (Or.inr (slot_ne (Or.inr (hw _ (List.mem_of_getElem? (i := 105) rfl))) (Or.inr (hw _ (List.mem_of_getElem? (i := 97) rfl))) (by decide) (t := .boolean) (t' := (.object "java/lang/String")) (by decide) (by decide)))
  have f_49 : Fld Z h23 r0 "com/example/orderd/orderd/provider/Notice" "badRequest" "Z" (.int (0 : Int32)) := Fld.other W23 f_48 (Or.inr (slot_ne (Or.inr (hw _ (List.mem_of_getElem? (i := 105) rfl))) (Or.inr (hw _ (List.mem_of_getElem? (i := 99) rfl))) (by decide) (t := .boolean) (t' := (.object "com/example/orderd/orderd/provider/Reply")) (by decide) (by decide)))
  have f_50 : Fld Z h32 r0 "com/example/orderd/orderd/provider/Notice" "badRequest" "Z" (.int (0 : Int32)) := Fld.other W32 f_49 (Or.inr (slot_ne (Or.inr (hw _ (List.mem_of_getElem? (i := 105) rfl))) (Or.inr (hw _ (List.mem_of_getElem? (i := 101) rfl))) (by decide) (t := .boolean) (t' := (.object "com/example/orderd/orderd/order/Rejection")) (by decide) (by decide)))
  have f_51 : Fld Z h42 r0 "com/example/orderd/orderd/provider/Notice" "badRequest" "Z" (.int (0 : Int32)) := Fld.other W42 f_50 (Or.inr (slot_ne (Or.inr (hw _ (List.mem_of_getElem? (i := 105) rfl))) (Or.inr (hw _ (List.mem_of_getElem? (i := 103) rfl))) (by decide) (t := .boolean) (t' := (.object "java/lang/String")) (by decide) (by decide)))
  have f_52 : Exa Z h42 r0 "com/example/orderd/orderd/provider/Notice" := Exa.wr W42 f_41
  obtain ⟨T53, h53, X53, e53, W53, st53⟩ := putFN X42 hx hZ hown (hw _ (List.mem_of_getElem? (i := 104) rfl)) Via.refl e42 f_51 f_52 (Or.inr ⟨(hw _ (List.mem_of_getElem? (i := 105) rfl)), rfl, hnm⟩) (hw _ (List.mem_of_getElem? (i := 87) rfl)) (ty := .boolean) (v' := (.int (1 : Int32))) (by decide) rfl (by decide) (g := (mkF m 40 #[.val (.ref r0), .val .null, .val (.int (0 : Int32)), .val .null, .val .null, .val .null, .val .null, .val (.int (1 : Int32))] [(.int (1 : Int32)), (.ref r0)])) rfl rfl (hb hby own_d15_40)
  refine Good.back st53 ?_
  have f_54 : Fld Z h53 r0 "com/example/orderd/orderd/provider/Notice" "badRequest" "Z" (.int (1 : Int32)) := Fld.same W53 f_51
  have N53 := Fr.snoc X53 N42 g0
  have Z55 : n0 ≤ h53.size := Nat.le_trans Z44 (Keep.of_wr W53).1
  have K56 : Keep h0 h53 [r0] := K45.wr W53 (Or.inl (List.mem_of_getElem? (i := 0) rfl))
  show Good p e below _ (T53.setTop (mkF m 43 #[.val (.ref r0), .val .null, .val (.int (0 : Int32)), .val .null, .val .null, .val .null, .val .null, .val (.int (1 : Int32))] []))
  obtain ⟨fs57, hr57, hrun57, hended57, hW57, hsame57⟩ := X53.leave (v := none) (fun _ => rfl)
  refine Good.done (X53.returnOut hx Bd.returns (hb hby own_d15_43) hr57) hrun57 hended57 ⟨_, _, rfl, ?_, ⟨_, rfl⟩, hW57, hsame57.mono (by decide) (by decide)⟩
  show Q15_00 Z r0 h0 n0 _ T53.heap _
  rw [e53]
  have f_58 : Fld Z h8 r0 "com/example/orderd/orderd/provider/Notice" "order" "Lcom/example/orderd/orderd/order/Order;" .null := Fld.other W8 f_3 (Or.inr (slot_ne (Or.inr (hw _ (List.mem_of_getElem? (i := 93) rfl))) (Or.inr (hw _ (List.mem_of_getElem? (i := 95) rfl))) (by decide) (t := (.object "com/example/orderd/orderd/order/Order")) (t' := .boolean) (by decide) (by decide)))
  have f_59 : Fld Z h15 r0 "com/example/orderd/orderd/provider/Notice" "order" "Lcom/example/orderd/orderd/order/Order;" .null := Fld.other W15 f_58 (Or.inr (slot_ne (Or.inr (hw _ (List.mem_of_getElem? (i := 93) rfl))) (Or.inr (hw _ (List.mem_of_getElem? (i := 97) rfl))) (by decide) (t := (.object "com/example/orderd/orderd/order/Order")) (t' := (.object "java/lang/String")) (by decide) (by decide)))
  have f_60 : Fld Z h23 r0 "com/example/orderd/orderd/provider/Notice" "order" "Lcom/example/orderd/orderd/order/Order;" .null := Fld.other W23 f_59 (Or.inr (slot_ne (Or.inr (hw _ (List.mem_of_getElem? (i := 93) rfl))) (Or.inr (hw _ (List.mem_of_getElem? (i := 99) rfl))) (by decide) (t := (.object "com/example/orderd/orderd/order/Order")) (t' := (.object "com/example/orderd/orderd/provider/Reply")) (by decide) (by decide)))
  have f_61 : Fld Z h32 r0 "com/example/orderd/orderd/provider/Notice" "order" "Lcom/example/orderd/orderd/order/Order;" .null := Fld.other W32 f_60 (Or.inr (slot_ne (Or.inr (hw _ (List.mem_of_getElem? (i := 93) rfl))) (Or.inr (hw _ (List.mem_of_getElem? (i := 101) rfl))) (by decide) (t := (.object "com/example/orderd/orderd/order/Order")) (t' := (.object "com/example/orderd/orderd/order/Rejection")) (by decide) (by decide)))
  have f_62 : Fld Z h42 r0 "com/example/orderd/orderd/provider/Notice" "order" "Lcom/example/orderd/orderd/order/Order;" .null := Fld.other W42 f_61 (Or.inr (slot_ne (Or.inr (hw _ (List.mem_of_getElem? (i := 93) rfl))) (Or.inr (hw _ (List.mem_of_getElem? (i := 103) rfl))) (by decide) (t := (.object "com/example/orderd/orderd/order/Order")) (t' := (.object "java/lang/String")) (by decide) (by decide)))
  have f_63 : Fld Z h53 r0 "com/example/orderd/orderd/provider/Notice" "order" "Lcom/example/orderd/orderd/order/Order;" .null := Fld.other W53 f_62 (Or.inr (slot_ne (Or.inr (hw _ (List.mem_of_getElem? (i := 93) rfl))) (Or.inr (hw _ (List.mem_of_getElem? (i := 105) rfl))) (by decide) (t := (.object "com/example/orderd/orderd/order/Order")) (t' := .boolean) (by decide) (by decide)))
  have f_64 : Fld Z h15 r0 "com/example/orderd/orderd/provider/Notice" "refund" "Z" (.int (0 : Int32)) := Fld.other W15 f_9 (Or.inr (slot_ne (Or.inr (hw _ (List.mem_of_getElem? (i := 95) rfl))) (Or.inr (hw _ (List.mem_of_getElem? (i := 97) rfl))) (by decide) (t := .boolean) (t' := (.object "java/lang/String")) (by decide) (by decide)))
  have f_65 : Fld Z h23 r0 "com/example/orderd/orderd/provider/Notice" "refund" "Z" (.int (0 : Int32)) := Fld.other W23 f_64 (Or.inr (slot_ne (Or.inr (hw _ (List.mem_of_getElem? (i := 95) rfl))) (Or.inr (hw _ (List.mem_of_getElem? (i := 99) rfl))) (by decide) (t := .boolean) (t' := (.object "com/example/orderd/orderd/provider/Reply")) (by decide) (by decide)))
  have f_66 : Fld Z h32 r0 "com/example/orderd/orderd/provider/Notice" "refund" "Z" (.int (0 : Int32)) := Fld.other W32 f_65 (Or.inr (slot_ne (Or.inr (hw _ (List.mem_of_getElem? (i := 95) rfl))) (Or.inr (hw _ (List.mem_of_getElem? (i := 101) rfl))) (by decide) (t := .boolean) (t' := (.object "com/example/orderd/orderd/order/Rejection")) (by decide) (by decide)))
  have f_67 : Fld Z h42 r0 "com/example/orderd/orderd/provider/Notice" "refund" "Z" (.int (0 : Int32)) := Fld.other W42 f_66 (Or.inr (slot_ne (Or.inr (hw _ (List.mem_of_getElem? (i := 95) rfl))) (Or.inr (hw _ (List.mem_of_getElem? (i := 103) rfl))) (by decide) (t := .boolean) (t' := (.object "java/lang/String")) (by decide) (by decide)))
  have f_68 : Fld Z h53 r0 "com/example/orderd/orderd/provider/Notice" "refund" "Z" (.int (0 : Int32)) := Fld.other W53 f_67 (Or.inr (slot_ne (Or.inr (hw _ (List.mem_of_getElem? (i := 95) rfl))) (Or.inr (hw _ (List.mem_of_getElem? (i := 105) rfl))) (by decide) (t := .boolean) (t' := .boolean) (by decide) (by decide)))
  have f_69 : Fld Z h23 r0 "com/example/orderd/orderd/provider/Notice" "sign" "Ljava/lang/String;" .null := Fld.other W23 f_16 (Or.inr (slot_ne (Or.inr (hw _ (List.mem_of_getElem? (i := 97) rfl))) (Or.inr (hw _ (List.mem_of_getElem? (i := 99) rfl))) (by decide) (t := (.object "java/lang/String")) (t' := (.object "com/example/orderd/orderd/provider/Reply")) (by decide) (by decide)))
  have f_70 : Fld Z h32 r0 "com/example/orderd/orderd/provider/Notice" "sign" "Ljava/lang/String;" .null := Fld.other W32 f_69 (Or.inr (slot_ne (Or.inr (hw _ (List.mem_of_getElem? (i := 97) rfl))) (Or.inr (hw _ (List.mem_of_getElem? (i := 101) rfl))) (by decide) (t := (.object "java/lang/String")) (t' := (.object "com/example/orderd/orderd/order/Rejection")) (by decide) (by decide)))
  have f_71 : Fld Z h42 r0 "com/example/orderd/orderd/provider/Notice" "sign" "Ljava/lang/String;" .null := Fld.other W42 f_70 (Or.inr (slot_ne (Or.inr (hw _ (List.mem_of_getElem? (i := 97) rfl))) (Or.inr (hw _ (List.mem_of_getElem? (i := 103) rfl))) (by decide) (t := (.object "java/lang/String")) (t' := (.object "java/lang/String")) (by decide) (by decide)))
  have f_72 : Fld Z h53 r0 "com/example/orderd/orderd/provider/Notice" "sign" "Ljava/lang/String;" .null := Fld.other W53 f_71 (Or.inr (slot_ne (Or.inr (hw _ (List.mem_of_getElem? (i := 97) rfl))) (Or.inr (hw _ (List.mem_of_getElem? (i := 105) rfl))) (by decide) (t := (.object "java/lang/String")) (t' := .boolean) (by decide) (by decide)))
  have f_73 : Fld Z h32 r0 "com/example/orderd/orderd/provider/Notice" "refusal" "Lcom/example/orderd/orderd/provider/Reply;" .null := Fld.other W32 f_24 (Or.inr (slot_ne (Or.inr (hw _ (List.mem_of_getElem? (i := 99) rfl))) (Or.inr (hw _ (List.mem_of_getElem? (i := 101) rfl))) (by decide) (t := (.object "com/example/orderd/orderd/provider/Reply")) (t' := (.object "com/example/orderd/orderd/order/Rejection")) (by decide) (by decide)))
  have f_74 : Fld Z h42 r0 "com/example/orderd/orderd/provider/Notice" "refusal" "Lcom/example/orderd/orderd/provider/Reply;" .null := Fld.other W42 f_73 (Or.inr (slot_ne (Or.inr (hw _ (List.mem_of_getElem? (i := 99) rfl))) (Or.inr (hw _ (List.mem_of_getElem? (i := 103) rfl))) (by decide) (t := (.object "com/example/orderd/orderd/provider/Reply")) (t' := (.object "java/lang/String")) (by decide) (by decide)))
  have f_75 : Fld Z h53 r0 "com/example/orderd/orderd/provider/Notice" "refusal" "Lcom/example/orderd/orderd/provider/Reply;" .null := Fld.other W53 f_74 (Or.inr (slot_ne (Or.inr (hw _ (List.mem_of_getElem? (i := 99) rfl))) (Or.inr (hw _ (List.mem_of_getElem? (i := 105) rfl))) (by decide) (t := (.object "com/example/orderd/orderd/provider/Reply")) (t' := .boolean) (by decide) (by decide)))
  have f_76 : Fld Z h42 r0 "com/example/orderd/orderd/provider/Notice" "rejection" "Lcom/example/orderd/orderd/order/Rejection;" .null := Fld.other W42 f_33 (Or.inr (slot_ne (Or.inr (hw _ (List.mem_of_getElem? (i := 101) rfl))) (Or.inr (hw _ (List.mem_of_getElem? (i := 103) rfl))) (by decide) (t := (.object "com/example/orderd/orderd/order/Rejection")) (t' := (.object "java/lang/String")) (by decide) (by decide)))
  have f_77 : Fld Z h53 r0 "com/example/orderd/orderd/provider/Notice" "rejection" "Lcom/example/orderd/orderd/order/Rejection;" .null := Fld.other W53 f_76 (Or.inr (slot_ne (Or.inr (hw _ (List.mem_of_getElem? (i := 101) rfl))) (Or.inr (hw _ (List.mem_of_getElem? (i := 105) rfl))) (by decide) (t := (.object "com/example/orderd/orderd/order/Rejection")) (t' := .boolean) (by decide) (by decide)))
  have f_78 : Fld Z h53 r0 "com/example/orderd/orderd/provider/Notice" "reason" "Ljava/lang/String;" .null := Fld.other W53 f_43 (Or.inr (slot_ne (Or.inr (hw _ (List.mem_of_getElem? (i := 103) rfl))) (Or.inr (hw _ (List.mem_of_getElem? (i := 105) rfl))) (by decide) (t := (.object "java/lang/String")) (t' := .boolean) (by decide) (by decide)))
  exact ⟨rfl, N53, K56, f_63, f_68, f_72, f_75, f_77, f_78, f_54⟩
theorem own_pd257 : parseMethodDescriptor "(Lcom/example/orderd/orderd/order/Order;ZLjava/lang/String;Lcom/example/orderd/orderd/provider/Reply;Lcom/example/orderd/orderd/order/Rejection;Ljava/lang/String;Z)V" = some ⟨[(.object "com/example/orderd/orderd/order/Order"), .boolean, (.object "java/lang/String"), (.object "com/example/orderd/orderd/provider/Reply"), (.object "com/example/orderd/orderd/order/Rejection"), (.object "java/lang/String"), .boolean], none⟩ := by decide +kernel
theorem own_d14_0 : decode prog_26_method_5_code 0 = .ok (.new 8, 3) := by decide +kernel
theorem own_d14_3 : decode prog_26_method_5_code 3 = .ok (.dup, 1) := by decide +kernel
theorem own_d14_4 : decode prog_26_method_5_code 4 = .ok (.aconst_null, 1) := by decide +kernel
theorem own_d14_5 : decode prog_26_method_5_code 5 = .ok (.iconst 0, 1) := by decide +kernel
theorem own_d14_6 : decode prog_26_method_5_code 6 = .ok (.aconst_null, 1) := by decide +kernel
theorem own_d14_7 : decode prog_26_method_5_code 7 = .ok (.aload_n 0, 1) := by decide +kernel
theorem own_d14_8 : decode prog_26_method_5_code 8 = .ok (.aconst_null, 1) := by decide +kernel
theorem own_d14_9 : decode prog_26_method_5_code 9 = .ok (.aload_n 1, 1) := by decide +kernel
theorem own_d14_10 : decode prog_26_method_5_code 10 = .ok (.iconst 1, 1) := by decide +kernel
theorem own_d14_11 : decode prog_26_method_5_code 11 = .ok (.invokespecial 44, 3) := by decide +kernel
theorem own_d14_14 : decode prog_26_method_5_code 14 = .ok (.areturn, 1) := by decide +kernel
theorem own_ef_14_00 (m : MethodId)  : entryFrame m #[.null, .null] 2 = mkF m 0 #[.val .null, .val .null] [] := by first | (simp [entryFrame, mkF, argsToLocals, Value.category]; done) | rfl
def Q14_00 (Z : State)  (h0 : Heap) (n0 : Nat) (v : Option Value) (h : Heap) (L : List Loc) : Prop := ∃ (nr : Addr), v = some (.ref nr) ∧ Fr n0 L ∧ Keep h0 h [] ∧ h0.size ≤ nr ∧ Exa Z h nr "com/example/orderd/orderd/provider/Notice" ∧ Fld Z h nr "com/example/orderd/orderd/provider/Notice" "order" "Lcom/example/orderd/orderd/order/Order;" .null ∧ Fld Z h nr "com/example/orderd/orderd/provider/Notice" "refund" "Z" (.int (0 : Int32)) ∧ Fld Z h nr "com/example/orderd/orderd/provider/Notice" "sign" "Ljava/lang/String;" .null ∧ Fld Z h nr "com/example/orderd/orderd/provider/Notice" "refusal" "Lcom/example/orderd/orderd/provider/Reply;" .null ∧ Fld Z h nr "com/example/orderd/orderd/provider/Notice" "rejection" "Lcom/example/orderd/orderd/order/Rejection;" .null ∧ Fld Z h nr "com/example/orderd/orderd/provider/Notice" "reason" "Ljava/lang/String;" .null ∧ Fld Z h nr "com/example/orderd/orderd/provider/Notice" "badRequest" "Z" (.int (1 : Int32))
set_option maxRecDepth 65536 in
set_option maxHeartbeats 40000000 in
theorem rm14_00 (l : Launch) (Z : State) (a0 : Array Value) (hw : ∀ d ∈ tables_1, d.before a0 Z = true) (ws : List Jvm.Cond)  (h0 : Heap) (n0 : Nat) (Z0 : n0 ≤ h0.size)  :
    MetFree l (⟨"com/example/orderd/orderd/provider/Notice", "badRequest", "(Lcom/example/orderd/orderd/provider/Reply;Ljava/lang/String;)Lcom/example/orderd/orderd/provider/Notice;"⟩ : MethodName) (head1 (Jvm.Cond.code (⟨"com/example/orderd/orderd/provider/Notice", "badRequest", "(Lcom/example/orderd/orderd/provider/Reply;Ljava/lang/String;)Lcom/example/orderd/orderd/provider/Notice;"⟩ : MethodName) prog_26_method_5_code 2 (some (.object "com/example/orderd/orderd/provider/Notice")) :: ws) ({ frames := 2, cells := 1, slots := 7, locals := 32 } : Room)) (fun a U => a = #[.null, .null] ∧ Z.Warmed39 U.vm ∧ U.heap = h0) (fun _ _ _ _ _ => True) (fun _ U o U' => ∃ v L, o = .returned v ∧ Q14_00 Z  h0 n0 v U'.heap L ∧ FrameEnd U o U' L ({ frames := 2, cells := 1, slots := 7, locals := 32 } : Room).cells ({ frames := 2, cells := 1, slots := 7, locals := 32 } : Room).slots) := by
  refine MetFree.of_bodySF (plainFor_of_name own_pn4) hisR ?_
  intro p e s m args below meth c s₁ Bd hml0 hP hK
  obtain ⟨rfl, hZ, hh⟩ := hP
  have hx := Bd.exec
  have hby := Bd.bytes
  have hml : c.maxLocals = 2 := hml0
  have hown : s.vm.findClass "com/example/orderd/orderd/provider/Notice" = some m.cls := findClass_of_methodNamed Bd.named
  have hnm := (name_of_methodNamed Bd.named Bd.method).1
  have X0 : Stand p l e ({ frames := 2, cells := 1, slots := 7, locals := 32 } : Room) s m #[.null, .null] below meth c s₁ [] 0 0 := Stand.of_body Bd
  have e0 : s₁.heap = h0 := by rw [← hh, Bd.state]; rfl
  have N0 := Fr.nil n0
  have KR : Keep h0 h0 [] := Keep.refl h0 _
  show Good p e below (fun o U' => ∃ v L, o = .returned v ∧ Q14_00 Z  h0 n0 v U'.heap L ∧ FrameEnd s o U' L ({ frames := 2, cells := 1, slots := 7, locals := 32 } : Room).cells ({ frames := 2, cells := 1, slots := 7, locals := 32 } : Room).slots) _
  refine Good.back (S' := s₁.setTop (mkF m 0 #[.val .null, .val .null] [])) (fun t k => castTop (own_ef_14_00 m ) k) ?_
  show Good p e below _ (s₁.setTop (mkF m 0 #[.val .null, .val .null] []))
  obtain ⟨T1, h1, X1, e1, E1, A1, D1, -, st1⟩ := newO X0 hx hZ hown (hw _ (List.mem_of_getElem? (i := 86) rfl)) (hw _ (List.mem_of_getElem? (i := 87) rfl)) (hw _ (List.mem_of_getElem? (i := 84) rfl)) e0 (g := (mkF m 0 #[.val .null, .val .null] [])) rfl (hb hby own_d14_0) (by decide) (by decide)
  obtain ⟨b1, g1⟩ : ∃ z, z = h0.size := ⟨_, rfl⟩
  rw [← g1] at A1 D1 st1
  refine Good.back st1 ?_
  have g_b1 : n0 ≤ b1 := Nat.le_trans Z0 (Nat.le_of_eq g1.symm)
  have sz_b1 : h0.size ≤ b1 := Nat.le_trans KR.1 (Nat.le_of_eq g1.symm)
  have Z2 : n0 ≤ h1.size := Nat.le_trans Z0 E1.1
  have K3 : Keep h0 h1 [] := KR.ext E1
  have f_4 : Exa Z h1 b1 "com/example/orderd/orderd/provider/Notice" := A1
  have f_5 : Fld Z h1 b1 "com/example/orderd/orderd/provider/Notice" "order" "Lcom/example/orderd/orderd/order/Order;" .null := D1 (Or.inr (hw _ (List.mem_of_getElem? (i := 93) rfl))) (ty := (.object "com/example/orderd/orderd/order/Order")) (by decide)
  have f_6 : Fld Z h1 b1 "com/example/orderd/orderd/provider/Notice" "refund" "Z" (.int (0 : Int32)) := D1 (Or.inr (hw _ (List.mem_of_getElem? (i := 95) rfl))) (ty := .boolean) (by decide)
  have f_7 : Fld Z h1 b1 "com/example/orderd/orderd/provider/Notice" "sign" "Ljava/lang/String;" .null := D1 (Or.inr (hw _ (List.mem_of_getElem? (i := 97) rfl))) (ty := (.object "java/lang/String")) (by decide)
  have f_8 : Fld Z h1 b1 "com/example/orderd/orderd/provider/Notice" "refusal" "Lcom/example/orderd/orderd/provider/Reply;" .null := D1 (Or.inr (hw _ (List.mem_of_getElem? (i := 99) rfl))) (ty := (.object "com/example/orderd/orderd/provider/Reply")) (by decide)
  have f_9 : Fld Z h1 b1 "com/example/orderd/orderd/provider/Notice" "rejection" "Lcom/example/orderd/orderd/order/Rejection;" .null := D1 (Or.inr (hw _ (List.mem_of_getElem? (i := 101) rfl))) (ty := (.object "com/example/orderd/orderd/order/Rejection")) (by decide)
  have f_10 : Fld Z h1 b1 "com/example/orderd/orderd/provider/Notice" "reason" "Ljava/lang/String;" .null := D1 (Or.inr (hw _ (List.mem_of_getElem? (i := 103) rfl))) (ty := (.object "java/lang/String")) (by decide)
  have f_11 : Fld Z h1 b1 "com/example/orderd/orderd/provider/Notice" "badRequest" "Z" (.int (0 : Int32)) := D1 (Or.inr (hw _ (List.mem_of_getElem? (i := 105) rfl))) (ty := .boolean) (by decide)
  show Good p e below _ (T1.setTop (mkF m 3 #[.val .null, .val .null] [(.ref b1)]))
  refine Good.back (fun _ k => XS.dup X1.here hx rfl (hb hby own_d14_3) rfl rfl k) ?_
  show Good p e below _ (T1.setTop (mkF m 4 #[.val .null, .val .null] [(.ref b1), (.ref b1)]))
  refine Good.back (fun _ k => XS.aconstNull X1.here hx rfl (hb hby own_d14_4) k) ?_
  show Good p e below _ (T1.setTop (mkF m 5 #[.val .null, .val .null] [.null, (.ref b1), (.ref b1)]))
  refine Good.back (fun _ k => XS.iconst X1.here hx rfl (hb hby own_d14_5) k) ?_
  show Good p e below _ (T1.setTop (mkF m 6 #[.val .null, .val .null] [(.int (0 : Int32)), .null, (.ref b1), (.ref b1)]))
  refine Good.back (fun _ k => XS.aconstNull X1.here hx rfl (hb hby own_d14_6) k) ?_
  show Good p e below _ (T1.setTop (mkF m 7 #[.val .null, .val .null] [.null, (.int (0 : Int32)), .null, (.ref b1), (.ref b1)]))
  refine Good.back (fun _ k => XS.aloadN X1.here hx rfl (hb hby own_d14_7) rfl rfl k) ?_
  show Good p e below _ (T1.setTop (mkF m 8 #[.val .null, .val .null] [.null, .null, (.int (0 : Int32)), .null, (.ref b1), (.ref b1)]))
  refine Good.back (fun _ k => XS.aconstNull X1.here hx rfl (hb hby own_d14_8) k) ?_
  show Good p e below _ (T1.setTop (mkF m 9 #[.val .null, .val .null] [.null, .null, .null, (.int (0 : Int32)), .null, (.ref b1), (.ref b1)]))
  refine Good.back (fun _ k => XS.aloadN X1.here hx rfl (hb hby own_d14_9) rfl rfl k) ?_
  show Good p e below _ (T1.setTop (mkF m 10 #[.val .null, .val .null] [.null, .null, .null, .null, (.int (0 : Int32)), .null, (.ref b1), (.ref b1)]))
  refine Good.back (fun _ k => XS.iconst X1.here hx rfl (hb hby own_d14_10) k) ?_
  show Good p e below _ (T1.setTop (mkF m 11 #[.val .null, .val .null] [(.int (1 : Int32)), .null, .null, .null, .null, (.int (0 : Int32)), .null, (.ref b1), (.ref b1)]))
  obtain ⟨_, _, ⟨T12, L12, k12, n12⟩, -, X12, ⟨Lc12, hQ12, l12, y12, z12⟩, st12⟩ := X1.specialBack hx (y := (⟨"com/example/orderd/orderd/provider/Notice", "<init>", "(Lcom/example/orderd/orderd/order/Order;ZLjava/lang/String;Lcom/example/orderd/orderd/provider/Reply;Lcom/example/orderd/orderd/order/Rejection;Ljava/lang/String;Z)V"⟩ : MethodName)) rfl hown (mvT hZ (hw _ (List.mem_of_getElem? (i := 88) rfl))) (mvT hZ (hw _ (List.mem_of_getElem? (i := 89) rfl))) (mvT hZ (hw _ (List.mem_of_getElem? (i := 90) rfl))) (by decide) (backOf (W := 1) (rm15_00 l Z a0 hw [] b1  h1 n0 Z2 f_4 g_b1 f_5 f_6 f_7 f_8 f_9 f_10 f_11) hZ (hw _ (List.mem_of_getElem? (i := 90) rfl)) (hw _ (List.mem_of_getElem? (i := 84) rfl)) (by decide) (by decide)) (g := (mkF m 11 #[.val .null, .val .null] [(.int (1 : Int32)), .null, .null, .null, .null, (.int (0 : Int32)), .null, (.ref b1), (.ref b1)])) rfl (by rw [hml]; rfl) (Steps.refl _) (a := b1) (argsL := [.null, (.int (0 : Int32)), .null, .null, .null, .null, (.int (1 : Int32))]) (rest := [(.ref b1)]) (lenOf own_pd257 rfl) rfl (by show 2 * 0 + _ ≤ _; exact Nat.le_of_eq rfl) (hb hby own_d14_11) (fun _ _ => ⟨rfl, e1, (by decide : 1 + 0 ≤ _), (by decide : 7 + 0 ≤ _)⟩)
  dsimp only [Pt.U, Pt.locs, Pt.cells, Pt.slots] at X12 l12 y12 z12 st12 hQ12
  subst l12 y12 z12
  obtain ⟨rfl, N12q, Kq12, o12_0, o12_1, o12_2, o12_3, o12_4, o12_5, o12_6⟩ := hQ12
  have N12 := Fr.app N0 N12q
  have Z13 : n0 ≤ T12.heap.size := Nat.le_trans Z2 Kq12.1
  have K14 : Keep h0 T12.heap [] := K3.trans Kq12 (allS (Or.inr sz_b1) all0)
  refine Good.back (fun _ k => st12.trans k) ?_
  show Good p e below _ (T12.setTop (mkF m 14 #[.val .null, .val .null] [(.ref b1)]))
  obtain ⟨fs15, hr15, hrun15, hended15, hW15, hsame15⟩ := X12.leave (v := some (.ref b1)) (fun h => by rw [Bd.returns] at h; cases h)
  refine Good.done (retOut X12 hx Bd.returns rfl (Or.inr (Or.inr (Or.inr (Or.inr ⟨rfl, rfl, rfl⟩)))) (hb hby own_d14_14) hr15) hrun15 hended15 ⟨_, _, rfl, ?_, ⟨_, rfl⟩, hW15, hsame15.mono (by decide) (by decide)⟩
  show Q14_00 Z  h0 n0 _ T12.heap _
  have f_16 : Exa Z T12.heap b1 "com/example/orderd/orderd/provider/Notice" := Exa.keep f_4 Kq12
  exact ⟨_, rfl, N12, K14, sz_b1, f_16, o12_0, o12_1, o12_2, o12_3, o12_4, o12_5, o12_6⟩
theorem own_ef_15_01 (m : MethodId) (x0 : Addr) (x2 : Int32) (x6 : Addr) (x7 : Int32) : entryFrame m #[(.ref x0), .null, (.int x2), .null, .null, .null, (.ref x6), (.int x7)] 8 = mkF m 0 #[.val (.ref x0), .val .null, .val (.int x2), .val .null, .val .null, .val .null, .val (.ref x6), .val (.int x7)] [] := by first | (simp [entryFrame, mkF, argsToLocals, Value.category]; done) | rfl
def Q15_01 (Z : State) (r0 : Addr) (r6 : Addr) (h0 : Heap) (n0 : Nat) (v : Option Value) (h : Heap) (L : List Loc) : Prop := v = none ∧ Fr n0 L ∧ Keep h0 h [r0] ∧ Fld Z h r0 "com/example/orderd/orderd/provider/Notice" "order" "Lcom/example/orderd/orderd/order/Order;" .null ∧ Fld Z h r0 "com/example/orderd/orderd/provider/Notice" "refund" "Z" (.int (0 : Int32)) ∧ Fld Z h r0 "com/example/orderd/orderd/provider/Notice" "sign" "Ljava/lang/String;" .null ∧ Fld Z h r0 "com/example/orderd/orderd/provider/Notice" "refusal" "Lcom/example/orderd/orderd/provider/Reply;" .null ∧ Fld Z h r0 "com/example/orderd/orderd/provider/Notice" "rejection" "Lcom/example/orderd/orderd/order/Rejection;" .null ∧ Fld Z h r0 "com/example/orderd/orderd/provider/Notice" "reason" "Ljava/lang/String;" (.ref r6) ∧ Fld Z h r0 "com/example/orderd/orderd/provider/Notice" "badRequest" "Z" (.int (1 : Int32))
set_option maxRecDepth 65536 in
set_option maxHeartbeats 40000000 in
theorem rm15_01 (l : Launch) (Z : State) (a0 : Array Value) (hw : ∀ d ∈ tables_1, d.before a0 Z = true) (ws : List Jvm.Cond) (r0 : Addr) (r6 : Addr) (h0 : Heap) (n0 : Nat) (Z0 : n0 ≤ h0.size) (E0 : Exa Z h0 r0 "com/example/orderd/orderd/provider/Notice") (g0 : n0 ≤ r0) (F_order : Fld Z h0 r0 "com/example/orderd/orderd/provider/Notice" "order" "Lcom/example/orderd/orderd/order/Order;" .null) (F_refund : Fld Z h0 r0 "com/example/orderd/orderd/provider/Notice" "refund" "Z" (.int (0 : Int32))) (F_sign : Fld Z h0 r0 "com/example/orderd/orderd/provider/Notice" "sign" "Ljava/lang/String;" .null) (F_refusal : Fld Z h0 r0 "com/example/orderd/orderd/provider/Notice" "refusal" "Lcom/example/orderd/orderd/provider/Reply;" .null) (F_rejection : Fld Z h0 r0 "com/example/orderd/orderd/provider/Notice" "rejection" "Lcom/example/orderd/orderd/order/Rejection;" .null) (F_reason : Fld Z h0 r0 "com/example/orderd/orderd/provider/Notice" "reason" "Ljava/lang/String;" .null) (F_badRequest : Fld Z h0 r0 "com/example/orderd/orderd/provider/Notice" "badRequest" "Z" (.int (0 : Int32))) :
    MetFree l (⟨"com/example/orderd/orderd/provider/Notice", "<init>", "(Lcom/example/orderd/orderd/order/Order;ZLjava/lang/String;Lcom/example/orderd/orderd/provider/Reply;Lcom/example/orderd/orderd/order/Rejection;Ljava/lang/String;Z)V"⟩ : MethodName) (head1 (Jvm.Cond.code (⟨"com/example/orderd/orderd/provider/Notice", "<init>", "(Lcom/example/orderd/orderd/order/Order;ZLjava/lang/String;Lcom/example/orderd/orderd/provider/Reply;Lcom/example/orderd/orderd/order/Rejection;Ljava/lang/String;Z)V"⟩ : MethodName) prog_26_method_1_code 8 none :: ws) ({ frames := 1, cells := 0, slots := 0, locals := 12 } : Room)) (fun a U => a = #[(.ref r0), .null, (.int (0 : Int32)), .null, .null, .null, (.ref r6), (.int (1 : Int32))] ∧ Z.Warmed39 U.vm ∧ U.heap = h0) (fun _ _ _ _ _ => True) (fun _ U o U' => ∃ v L, o = .returned v ∧ Q15_01 Z r0 r6 h0 n0 v U'.heap L ∧ FrameEnd U o U' L ({ frames := 1, cells := 0, slots := 0, locals := 12 } : Room).cells ({ frames := 1, cells := 0, slots := 0, locals := 12 } : Room).slots) := by
  refine MetFree.of_bodySF (plainFor_of_name own_pn4) hisR ?_
  intro p e s m args below meth c s₁ Bd hml0 hP hK
  obtain ⟨rfl, hZ, hh⟩ := hP
  have hx := Bd.exec
  have hby := Bd.bytes
  have hml : c.maxLocals = 8 := hml0
  have hown : s.vm.findClass "com/example/orderd/orderd/provider/Notice" = some m.cls := findClass_of_methodNamed Bd.named
  have hnm := (name_of_methodNamed Bd.named Bd.method).1
  have X0 : Stand p l e ({ frames := 1, cells := 0, slots := 0, locals := 12 } : Room) s m #[(.ref r0), .null, (.int (0 : Int32)), .null, .null, .null, (.ref r6), (.int (1 : Int32))] below meth c s₁ [] 0 0 := Stand.of_body Bd
  have e0 : s₁.heap = h0 := by rw [← hh, Bd.state]; rfl
  have N0 := Fr.nil n0
  have KR : Keep h0 h0 [r0] := Keep.refl h0 _
  show Good p e below (fun o U' => ∃ v L, o = .returned v ∧ Q15_01 Z r0 r6 h0 n0 v U'.heap L ∧ FrameEnd s o U' L ({ frames := 1, cells := 0, slots := 0, locals := 12 } : Room).cells ({ frames := 1, cells := 0, slots := 0, locals := 12 } : Room).slots) _
  refine Good.back (S' := s₁.setTop (mkF m 0 #[.val (.ref r0), .val .null, .val (.int (0 : Int32)), .val .null, .val .null, .val .null, .val (.ref r6), .val (.int (1 : Int32))] [])) (fun t k => castTop (own_ef_15_01 m r0 (0 : Int32) r6 (1 : Int32)) k) ?_
  show Good p e below _ (s₁.setTop (mkF m 0 #[.val (.ref r0), .val .null, .val (.int (0 : Int32)), .val .null, .val .null, .val .null, .val (.ref r6), .val (.int (1 : Int32))] []))
  refine Good.back (fun _ k => XS.aloadN X0.here hx rfl (hb hby own_d15_0) rfl rfl k) ?_
  show Good p e below _ (s₁.setTop (mkF m 1 #[.val (.ref r0), .val .null, .val (.int (0 : Int32)), .val .null, .val .null, .val .null, .val (.ref r6), .val (.int (1 : Int32))] [(.ref r0)]))
  obtain ⟨T1, X1, e1, st1⟩ := initO X0 hx hZ hown (hw _ (List.mem_of_getElem? (i := 91) rfl)) (hw _ (List.mem_of_getElem? (i := 21) rfl)) (hw _ (List.mem_of_getElem? (i := 22) rfl)) e0 (g := (mkF m 1 #[.val (.ref r0), .val .null, .val (.int (0 : Int32)), .val .null, .val .null, .val .null, .val (.ref r6), .val (.int (1 : Int32))] [(.ref r0)])) rfl (by rw [hml]; rfl) rfl (hb hby own_d15_1) (by decide) (W := 0) (by show 2 * 0 + _ ≤ _; exact Nat.le_of_eq rfl) (by decide)
  refine Good.back st1 ?_
  show Good p e below _ (T1.setTop (mkF m 4 #[.val (.ref r0), .val .null, .val (.int (0 : Int32)), .val .null, .val .null, .val .null, .val (.ref r6), .val (.int (1 : Int32))] []))
  refine Good.back (fun _ k => XS.aloadN X1.here hx rfl (hb hby own_d15_4) rfl rfl k) ?_
  show Good p e below _ (T1.setTop (mkF m 5 #[.val (.ref r0), .val .null, .val (.int (0 : Int32)), .val .null, .val .null, .val .null, .val (.ref r6), .val (.int (1 : Int32))] [(.ref r0)]))
  refine Good.back (fun _ k => XS.aloadN X1.here hx rfl (hb hby own_d15_5) rfl rfl k) ?_
  show Good p e below _ (T1.setTop (mkF m 6 #[.val (.ref r0), .val .null, .val (.int (0 : Int32)), .val .null, .val .null, .val .null, .val (.ref r6), .val (.int (1 : Int32))] [.null, (.ref r0)]))
  obtain ⟨T2, h2, X2, e2, W2, st2⟩ := putF X1 hx hZ hown (host := "") (Or.inl (hw _ (List.mem_of_getElem? (i := 92) rfl))) Via.refl e1 F_order E0 (Or.inr ⟨(hw _ (List.mem_of_getElem? (i := 93) rfl)), rfl, hnm⟩) (hw _ (List.mem_of_getElem? (i := 87) rfl)) (ty := (.object "com/example/orderd/orderd/order/Order")) (by decide) rfl rfl (g := (mkF m 6 #[.val (.ref r0), .val .null, .val (.int (0 : Int32)), .val .null, .val .null, .val .null, .val (.ref r6), .val (.int (1 : Int32))] [.null, (.ref r0)])) rfl rfl (hb hby own_d15_6)
  refine Good.back st2 ?_
  have f_3 : Fld Z h2 r0 "com/example/orderd/orderd/provider/Notice" "order" "Lcom/example/orderd/orderd/order/Order;" .null := Fld.same W2 F_order
  have N2 := Fr.snoc X2 N0 g0
  have Z4 : n0 ≤ h2.size := Nat.le_trans Z0 (Keep.of_wr W2).1
  have K5 : Keep h0 h2 [r0] := KR.wr W2 (Or.inl (List.mem_of_getElem? (i := 0) rfl))
  show Good p e below _ (T2.setTop (mkF m 9 #[.val (.ref r0), .val .null, .val (.int (0 : Int32)), .val .null, .val .null, .val .null, .val (.ref r6), .val (.int (1 : Int32))] []))
  refine Good.back (fun _ k => XS.aloadN X2.here hx rfl (hb hby own_d15_9) rfl rfl k) ?_
  show Good p e below _ (T2.setTop (mkF m 10 #[.val (.ref r0), .val .null, .val (.int (0 : Int32)), .val .null, .val .null, .val .null, .val (.ref r6), .val (.int (1 : Int32))] [(.ref r0)]))
  refine Good.back (fun _ k => XS.iloadN X2.here hx rfl (hb hby own_d15_10) rfl k) ?_
  show Good p e below _ (T2.setTop (mkF m 11 #[.val (.ref r0), .val .null, .val (.int (0 : Int32)), .val .null, .val .null, .val .null, .val (.ref r6), .val (.int (1 : Int32))] [(.int (0 : Int32)), (.ref r0)]))
  have f_6 : Fld Z h2 r0 "com/example/orderd/orderd/provider/Notice" "refund" "Z" (.int (0 : Int32)) := Fld.other W2 F_refund (Or.inr (slot_ne (Or.inr (hw _ (List.mem_of_getElem? (i := 95) rfl))) (Or.inr (hw _ (List.mem_of_getElem? (i := 93) rfl))) (by decide) (t := .boolean) (t' := (.object "com/example/orderd/orderd/order/Order")) (by decide) (by decide)))
  have f_7 : Exa Z h2 r0 "com/example/orderd/orderd/provider/Notice" := Exa.wr W2 E0
  obtain ⟨T8, h8, X8, e8, W8, st8⟩ := putFN X2 hx hZ hown (hw _ (List.mem_of_getElem? (i := 94) rfl)) Via.refl e2 f_6 f_7 (Or.inr ⟨(hw _ (List.mem_of_getElem? (i := 95) rfl)), rfl, hnm⟩) (hw _ (List.mem_of_getElem? (i := 87) rfl)) (ty := .boolean) (v' := (.int (0 : Int32))) (by decide) rfl (by decide) (g := (mkF m 11 #[.val (.ref r0), .val .null, .val (.int (0 : Int32)), .val .null, .val .null, .val .null, .val (.ref r6), .val (.int (1 : Int32))] [(.int (0 : Int32)), (.ref r0)])) rfl rfl (hb hby own_d15_11)
  refine Good.back st8 ?_
  have f_9 : Fld Z h8 r0 "com/example/orderd/orderd/provider/Notice" "refund" "Z" (.int (0 : Int32)) := Fld.same W8 f_6
  have N8 := Fr.snoc X8 N2 g0
  have Z10 : n0 ≤ h8.size := Nat.le_trans Z4 (Keep.of_wr W8).1
  have K11 : Keep h0 h8 [r0] := K5.wr W8 (Or.inl (List.mem_of_getElem? (i := 0) rfl))
  show Good p e below _ (T8.setTop (mkF m 14 #[.val (.ref r0), .val .null, .val (.int (0 : Int32)), .val .null, .val .null, .val .null, .val (.ref r6), .val (.int (1 : Int32))] []))
  refine Good.back (fun _ k => XS.aloadN X8.here hx rfl (hb hby own_d15_14) rfl rfl k) ?_
  show Good p e below _ (T8.setTop (mkF m 15 #[.val (.ref r0), .val .null, .val (.int (0 : Int32)), .val .null, .val .null, .val .null, .val (.ref r6), .val (.int (1 : Int32))] [(.ref r0)]))
  refine Good.back (fun _ k => XS.aloadN X8.here hx rfl (hb hby own_d15_15) rfl rfl k) ?_
  show Good p e below _ (T8.setTop (mkF m 16 #[.val (.ref r0), .val .null, .val (.int (0 : Int32)), .val .null, .val .null, .val .null, .val (.ref r6), .val (.int (1 : Int32))] [.null, (.ref r0)]))
  have f_12 : Fld Z h2 r0 "com/example/orderd/orderd/provider/Notice" "sign" "Ljava/lang/String;" .null := Fld.other W2 F_sign (Or.inr (slot_ne (Or.inr (hw _ (List.mem_of_getElem? (i := 97) rfl))) (Or.inr (hw _ (List.mem_of_getElem? (i := 93) rfl))) (by decide) (t := (.object "java/lang/String")) (t' := (.object "com/example/orderd/orderd/order/Order")) (by decide) (by decide)))
  have f_13 : Fld Z h8 r0 "com/example/orderd/orderd/provider/Notice" "sign" "Ljava/lang/String;" .null := Fld.other W8 f_12 (Or.inr (slot_ne (Or.inr (hw _ (List.mem_of_getElem? (i := 97) rfl))) (Or.inr (hw _ (List.mem_of_getElem? (i := 95) rfl))) (by decide) (t := (.object "java/lang/String")) (t' := .boolean) (by decide) (by decide)))
  have f_14 : Exa Z h8 r0 "com/example/orderd/orderd/provider/Notice" := Exa.wr W8 f_7
  obtain ⟨T15, h15, X15, e15, W15, st15⟩ := putF X8 hx hZ hown (host := "") (Or.inl (hw _ (List.mem_of_getElem? (i := 96) rfl))) Via.refl e8 f_13 f_14 (Or.inr ⟨(hw _ (List.mem_of_getElem? (i := 97) rfl)), rfl, hnm⟩) (hw _ (List.mem_of_getElem? (i := 87) rfl)) (ty := (.object "java/lang/String")) (by decide) rfl rfl (g := (mkF m 16 #[.val (.ref r0), .val .null, .val (.int (0 : Int32)), .val .null, .val .null, .val .null, .val (.ref r6), .val (.int (1 : Int32))] [.null, (.ref r0)])) rfl rfl (hb hby own_d15_16)
  refine Good.back st15 ?_
  have f_16 : Fld Z h15 r0 "com/example/orderd/orderd/provider/Notice" "sign" "Ljava/lang/String;" .null := Fld.same W15 f_13
  have N15 := Fr.snoc X15 N8 g0
  have Z17 : n0 ≤ h15.size := Nat.le_trans Z10 (Keep.of_wr W15).1
  have K18 : Keep h0 h15 [r0] := K11.wr W15 (Or.inl (List.mem_of_getElem? (i := 0) rfl))
  show Good p e below _ (T15.setTop (mkF m 19 #[.val (.ref r0), .val .null, .val (.int (0 : Int32)), .val .null, .val .null, .val .null, .val (.ref r6), .val (.int (1 : Int32))] []))
  refine Good.back (fun _ k => XS.aloadN X15.here hx rfl (hb hby own_d15_19) rfl rfl k) ?_
  show Good p e below _ (T15.setTop (mkF m 20 #[.val (.ref r0), .val .null, .val (.int (0 : Int32)), .val .null, .val .null, .val .null, .val (.ref r6), .val (.int (1 : Int32))] [(.ref r0)]))
  refine Good.back (fun _ k => XS.aload X15.here hx rfl (hb hby own_d15_20) rfl rfl k) ?_
  show Good p e below _ (T15.setTop (mkF m 22 #[.val (.ref r0), .val .null, .val (.int (0 : Int32)), .val .null, .val .null, .val .null, .val (.ref r6), .val (.int (1 : Int32))] [.null, (.ref r0)]))
  have f_19 : Fld Z h2 r0 "com/example/orderd/orderd/provider/Notice" "refusal" "Lcom/example/orderd/orderd/provider/Reply;" .null := Fld.other W2 F_refusal (Or.inr (slot_ne (Or.inr (hw _ (List.mem_of_getElem? (i := 99) rfl))) (Or.inr (hw _ (List.mem_of_getElem? (i := 93) rfl))) (by decide) (t := (.object "com/example/orderd/orderd/provider/Reply")) (t' := (.object "com/example/orderd/orderd/order/Order")) (by decide) (by decide)))
  have f_20 : Fld Z h8 r0 "com/example/orderd/orderd/provider/Notice" "refusal" "Lcom/example/orderd/orderd/provider/Reply;" .null := Fld.other W8 f_19 (Or.inr (slot_ne (Or.inr (hw _ (List.mem_of_getElem? (i := 99) rfl))) (Or.inr (hw _ (List.mem_of_getElem? (i := 95) rfl))) (by decide) (t := (.object "com/example/orderd/orderd/provider/Reply")) (t' := .boolean) (by decide) (by decide)))
  have f_21 : Fld Z h15 r0 "com/example/orderd/orderd/provider/Notice" "refusal" "Lcom/example/orderd/orderd/provider/Reply;" .null := Fld.other W15 f_20 (Or.inr (slot_ne (Or.inr (hw _ (List.mem_of_getElem? (i := 99) rfl))) (Or.inr (hw _ (List.mem_of_getElem? (i := 97) rfl))) (by decide) (t := (.object "com/example/orderd/orderd/provider/Reply")) (t' := (.object "java/lang/String")) (by decide) (by decide)))
  have f_22 : Exa Z h15 r0 "com/example/orderd/orderd/provider/Notice" := Exa.wr W15 f_14
  obtain ⟨T23, h23, X23, e23, W23, st23⟩ := putF X15 hx hZ hown (host := "") (Or.inl (hw _ (List.mem_of_getElem? (i := 98) rfl))) Via.refl e15 f_21 f_22 (Or.inr ⟨(hw _ (List.mem_of_getElem? (i := 99) rfl)), rfl, hnm⟩) (hw _ (List.mem_of_getElem? (i := 87) rfl)) (ty := (.object "com/example/orderd/orderd/provider/Reply")) (by decide) rfl rfl (g := (mkF m 22 #[.val (.ref r0), .val .null, .val (.int (0 : Int32)), .val .null, .val .null, .val .null, .val (.ref r6), .val (.int (1 : Int32))] [.null, (.ref r0)])) rfl rfl (hb hby own_d15_22)
  refine Good.back st23 ?_
  have f_24 : Fld Z h23 r0 "com/example/orderd/orderd/provider/Notice" "refusal" "Lcom/example/orderd/orderd/provider/Reply;" .null := Fld.same W23 f_21
  have N23 := Fr.snoc X23 N15 g0
  have Z25 : n0 ≤ h23.size := Nat.le_trans Z17 (Keep.of_wr W23).1
  have K26 : Keep h0 h23 [r0] := K18.wr W23 (Or.inl (List.mem_of_getElem? (i := 0) rfl))
  show Good p e below _ (T23.setTop (mkF m 25 #[.val (.ref r0), .val .null, .val (.int (0 : Int32)), .val .null, .val .null, .val .null, .val (.ref r6), .val (.int (1 : Int32))] []))
  refine Good.back (fun _ k => XS.aloadN X23.here hx rfl (hb hby own_d15_25) rfl rfl k) ?_
  show Good p e below _ (T23.setTop (mkF m 26 #[.val (.ref r0), .val .null, .val (.int (0 : Int32)), .val .null, .val .null, .val .null, .val (.ref r6), .val (.int (1 : Int32))] [(.ref r0)]))
  refine Good.back (fun _ k => XS.aload X23.here hx rfl (hb hby own_d15_26) rfl rfl k) ?_
  show Good p e below _ (T23.setTop (mkF m 28 #[.val (.ref r0), .val .null, .val (.int (0 : Int32)), .val .null, .val .null, .val .null, .val (.ref r6), .val (.int (1 : Int32))] [.null, (.ref r0)]))
  have f_27 : Fld Z h2 r0 "com/example/orderd/orderd/provider/Notice" "rejection" "Lcom/example/orderd/orderd/order/Rejection;" .null := Fld.other W2 F_rejection (Or.inr (slot_ne (Or.inr (hw _ (List.mem_of_getElem? (i := 101) rfl))) (Or.inr (hw _ (List.mem_of_getElem? (i := 93) rfl))) (by decide) (t := (.object "com/example/orderd/orderd/order/Rejection")) (t' := (.object "com/example/orderd/orderd/order/Order")) (by decide) (by decide)))
  have f_28 : Fld Z h8 r0 "com/example/orderd/orderd/provider/Notice" "rejection" "Lcom/example/orderd/orderd/order/Rejection;" .null := Fld.other W8 f_27 (Or.inr (slot_ne (Or.inr (hw _ (List.mem_of_getElem? (i := 101) rfl))) (Or.inr (hw _ (List.mem_of_getElem? (i := 95) rfl))) (by decide) (t := (.object "com/example/orderd/orderd/order/Rejection")) (t' := .boolean) (by decide) (by decide)))
  have f_29 : Fld Z h15 r0 "com/example/orderd/orderd/provider/Notice" "rejection" "Lcom/example/orderd/orderd/order/Rejection;" .null := Fld.other W15 f_28 (Or.inr (slot_ne (Or.inr (hw _ (List.mem_of_getElem? (i := 101) rfl))) (Or.inr (hw _ (List.mem_of_getElem? (i := 97) rfl))) (by decide) (t := (.object "com/example/orderd/orderd/order/Rejection")) (t' := (.object "java/lang/String")) (by decide) (by decide)))
  have f_30 : Fld Z h23 r0 "com/example/orderd/orderd/provider/Notice" "rejection" "Lcom/example/orderd/orderd/order/Rejection;" .null := Fld.other W23 f_29 (Or.inr (slot_ne (Or.inr (hw _ (List.mem_of_getElem? (i := 101) rfl))) (Or.inr (hw _ (List.mem_of_getElem? (i := 99) rfl))) (by decide) (t := (.object "com/example/orderd/orderd/order/Rejection")) (t' := (.object "com/example/orderd/orderd/provider/Reply")) (by decide) (by decide)))
  have f_31 : Exa Z h23 r0 "com/example/orderd/orderd/provider/Notice" := Exa.wr W23 f_22
  obtain ⟨T32, h32, X32, e32, W32, st32⟩ := putF X23 hx hZ hown (host := "") (Or.inl (hw _ (List.mem_of_getElem? (i := 100) rfl))) Via.refl e23 f_30 f_31 (Or.inr ⟨(hw _ (List.mem_of_getElem? (i := 101) rfl)), rfl, hnm⟩) (hw _ (List.mem_of_getElem? (i := 87) rfl)) (ty := (.object "com/example/orderd/orderd/order/Rejection")) (by decide) rfl rfl (g := (mkF m 28 #[.val (.ref r0), .val .null, .val (.int (0 : Int32)), .val .null, .val .null, .val .null, .val (.ref r6), .val (.int (1 : Int32))] [.null, (.ref r0)])) rfl rfl (hb hby own_d15_28)
  refine Good.back st32 ?_
  have f_33 : Fld Z h32 r0 "com/example/orderd/orderd/provider/Notice" "rejection" "Lcom/example/orderd/orderd/order/Rejection;" .null := Fld.same W32 f_30
  have N32 := Fr.snoc X32 N23 g0
  have Z34 : n0 ≤ h32.size := Nat.le_trans Z25 (Keep.of_wr W32).1
  have K35 : Keep h0 h32 [r0] := K26.wr W32 (Or.inl (List.mem_of_getElem? (i := 0) rfl))
  show Good p e below _ (T32.setTop (mkF m 31 #[.val (.ref r0), .val .null, .val (.int (0 : Int32)), .val .null, .val .null, .val .null, .val (.ref r6), .val (.int (1 : Int32))] []))
  refine Good.back (fun _ k => XS.aloadN X32.here hx rfl (hb hby own_d15_31) rfl rfl k) ?_
  show Good p e below _ (T32.setTop (mkF m 32 #[.val (.ref r0), .val .null, .val (.int (0 : Int32)), .val .null, .val .null, .val .null, .val (.ref r6), .val (.int (1 : Int32))] [(.ref r0)]))
  refine Good.back (fun _ k => XS.aload X32.here hx rfl (hb hby own_d15_32) rfl rfl k) ?_
  show Good p e below _ (T32.setTop (mkF m 34 #[.val (.ref r0), .val .null, .val (.int (0 : Int32)), .val .null, .val .null, .val .null, .val (.ref r6), .val (.int (1 : Int32))] [(.ref r6), (.ref r0)]))
  have f_36 : Fld Z h2 r0 "com/example/orderd/orderd/provider/Notice" "reason" "Ljava/lang/String;" .null := Fld.other W2 F_reason (Or.inr (slot_ne (Or.inr (hw _ (List.mem_of_getElem? (i := 103) rfl))) (Or.inr (hw _ (List.mem_of_getElem? (i := 93) rfl))) (by decide) (t := (.object "java/lang/String")) (t' := (.object "com/example/orderd/orderd/order/Order")) (by decide) (by decide)))
  have f_37 : Fld Z h8 r0 "com/example/orderd/orderd/provider/Notice" "reason" "Ljava/lang/String;" .null := Fld.other W8 f_36 (Or.inr (slot_ne (Or.inr (hw _ (List.mem_of_getElem? (i := 103) rfl))) (Or.inr (hw _ (List.mem_of_getElem? (i := 95) rfl))) (by decide) (t := (.object "java/lang/String")) (t' := .boolean) (by decide) (by decide)))
  have f_38 : Fld Z h15 r0 "com/example/orderd/orderd/provider/Notice" "reason" "Ljava/lang/String;" .null := Fld.other W15 f_37 (Or.inr (slot_ne (Or.inr (hw _ (List.mem_of_getElem? (i := 103) rfl))) (Or.inr (hw _ (List.mem_of_getElem? (i := 97) rfl))) (by decide) (t := (.object "java/lang/String")) (t' := (.object "java/lang/String")) (by decide) (by decide)))
  have f_39 : Fld Z h23 r0 "com/example/orderd/orderd/provider/Notice" "reason" "Ljava/lang/String;" .null := Fld.other W23 f_38 (Or.inr (slot_ne (Or.inr (hw _ (List.mem_of_getElem? (i := 103) rfl))) (Or.inr (hw _ (List.mem_of_getElem? (i := 99) rfl))) (by decide) (t := (.object "java/lang/String")) (t' := (.object "com/example/orderd/orderd/provider/Reply")) (by decide) (by decide)))
  have f_40 : Fld Z h32 r0 "com/example/orderd/orderd/provider/Notice" "reason" "Ljava/lang/String;" .null := Fld.other W32 f_39 (Or.inr (slot_ne (Or.inr (hw _ (List.mem_of_getElem? (i := 103) rfl))) (Or.inr (hw _ (List.mem_of_getElem? (i := 101) rfl))) (by decide) (t := (.object "java/lang/String")) (t' := (.object "com/example/orderd/orderd/order/Rejection")) (by decide) (by decide)))
  have f_41 : Exa Z h32 r0 "com/example/orderd/orderd/provider/Notice" := Exa.wr W32 f_31
  obtain ⟨T42, h42, X42, e42, W42, st42⟩ := putF X32 hx hZ hown (host := "") (Or.inl (hw _ (List.mem_of_getElem? (i := 102) rfl))) Via.refl e32 f_40 f_41 (Or.inr ⟨(hw _ (List.mem_of_getElem? (i := 103) rfl)), rfl, hnm⟩) (hw _ (List.mem_of_getElem? (i := 87) rfl)) (ty := (.object "java/lang/String")) (by decide) rfl rfl (g := (mkF m 34 #[.val (.ref r0), .val .null, .val (.int (0 : Int32)), .val .null, .val .null, .val .null, .val (.ref r6), .val (.int (1 : Int32))] [(.ref r6), (.ref r0)])) rfl rfl (hb hby own_d15_34)
  refine Good.back st42 ?_
  have f_43 : Fld Z h42 r0 "com/example/orderd/orderd/provider/Notice" "reason" "Ljava/lang/String;" (.ref r6) := Fld.same W42 f_40
  have N42 := Fr.snoc X42 N32 g0
  have Z44 : n0 ≤ h42.size := Nat.le_trans Z34 (Keep.of_wr W42).1
  have K45 : Keep h0 h42 [r0] := K35.wr W42 (Or.inl (List.mem_of_getElem? (i := 0) rfl))
  show Good p e below _ (T42.setTop (mkF m 37 #[.val (.ref r0), .val .null, .val (.int (0 : Int32)), .val .null, .val .null, .val .null, .val (.ref r6), .val (.int (1 : Int32))] []))
  refine Good.back (fun _ k => XS.aloadN X42.here hx rfl (hb hby own_d15_37) rfl rfl k) ?_
  show Good p e below _ (T42.setTop (mkF m 38 #[.val (.ref r0), .val .null, .val (.int (0 : Int32)), .val .null, .val .null, .val .null, .val (.ref r6), .val (.int (1 : Int32))] [(.ref r0)]))
  refine Good.back (fun _ k => XS.iload X42.here hx rfl (hb hby own_d15_38) rfl k) ?_
  show Good p e below _ (T42.setTop (mkF m 40 #[.val (.ref r0), .val .null, .val (.int (0 : Int32)), .val .null, .val .null, .val .null, .val (.ref r6), .val (.int (1 : Int32))] [(.int (1 : Int32)), (.ref r0)]))
  have f_46 : Fld Z h2 r0 "com/example/orderd/orderd/provider/Notice" "badRequest" "Z" (.int (0 : Int32)) := Fld.other W2 F_badRequest (Or.inr (slot_ne (Or.inr (hw _ (List.mem_of_getElem? (i := 105) rfl))) (Or.inr (hw _ (List.mem_of_getElem? (i := 93) rfl))) (by decide) (t := .boolean) (t' := (.object "com/example/orderd/orderd/order/Order")) (by decide) (by decide)))
  have f_47 : Fld Z h8 r0 "com/example/orderd/orderd/provider/Notice" "badRequest" "Z" (.int (0 : Int32)) := Fld.other W8 f_46 (Or.inr (slot_ne (Or.inr (hw _ (List.mem_of_getElem? (i := 105) rfl))) (Or.inr (hw _ (List.mem_of_getElem? (i := 95) rfl))) (by decide) (t := .boolean) (t' := .boolean) (by decide) (by decide)))
  have f_48 : Fld Z h15 r0 "com/example/orderd/orderd/provider/Notice" "badRequest" "Z" (.int (0 : Int32)) := Fld.other W15 f_47 (Or.inr (slot_ne (Or.inr (hw _ (List.mem_of_getElem? (i := 105) rfl))) (Or.inr (hw _ (List.mem_of_getElem? (i := 97) rfl))) (by decide) (t := .boolean) (t' := (.object "java/lang/String")) (by decide) (by decide)))
  have f_49 : Fld Z h23 r0 "com/example/orderd/orderd/provider/Notice" "badRequest" "Z" (.int (0 : Int32)) := Fld.other W23 f_48 (Or.inr (slot_ne (Or.inr (hw _ (List.mem_of_getElem? (i := 105) rfl))) (Or.inr (hw _ (List.mem_of_getElem? (i := 99) rfl))) (by decide) (t := .boolean) (t' := (.object "com/example/orderd/orderd/provider/Reply")) (by decide) (by decide)))
  have f_50 : Fld Z h32 r0 "com/example/orderd/orderd/provider/Notice" "badRequest" "Z" (.int (0 : Int32)) := Fld.other W32 f_49 (Or.inr (slot_ne (Or.inr (hw _ (List.mem_of_getElem? (i := 105) rfl))) (Or.inr (hw _ (List.mem_of_getElem? (i := 101) rfl))) (by decide) (t := .boolean) (t' := (.object "com/example/orderd/orderd/order/Rejection")) (by decide) (by decide)))
  have f_51 : Fld Z h42 r0 "com/example/orderd/orderd/provider/Notice" "badRequest" "Z" (.int (0 : Int32)) := Fld.other W42 f_50 (Or.inr (slot_ne (Or.inr (hw _ (List.mem_of_getElem? (i := 105) rfl))) (Or.inr (hw _ (List.mem_of_getElem? (i := 103) rfl))) (by decide) (t := .boolean) (t' := (.object "java/lang/String")) (by decide) (by decide)))
  have f_52 : Exa Z h42 r0 "com/example/orderd/orderd/provider/Notice" := Exa.wr W42 f_41
  obtain ⟨T53, h53, X53, e53, W53, st53⟩ := putFN X42 hx hZ hown (hw _ (List.mem_of_getElem? (i := 104) rfl)) Via.refl e42 f_51 f_52 (Or.inr ⟨(hw _ (List.mem_of_getElem? (i := 105) rfl)), rfl, hnm⟩) (hw _ (List.mem_of_getElem? (i := 87) rfl)) (ty := .boolean) (v' := (.int (1 : Int32))) (by decide) rfl (by decide) (g := (mkF m 40 #[.val (.ref r0), .val .null, .val (.int (0 : Int32)), .val .null, .val .null, .val .null, .val (.ref r6), .val (.int (1 : Int32))] [(.int (1 : Int32)), (.ref r0)])) rfl rfl (hb hby own_d15_40)
  refine Good.back st53 ?_
  have f_54 : Fld Z h53 r0 "com/example/orderd/orderd/provider/Notice" "badRequest" "Z" (.int (1 : Int32)) := Fld.same W53 f_51
  have N53 := Fr.snoc X53 N42 g0
  have Z55 : n0 ≤ h53.size := Nat.le_trans Z44 (Keep.of_wr W53).1
  have K56 : Keep h0 h53 [r0] := K45.wr W53 (Or.inl (List.mem_of_getElem? (i := 0) rfl))
  show Good p e below _ (T53.setTop (mkF m 43 #[.val (.ref r0), .val .null, .val (.int (0 : Int32)), .val .null, .val .null, .val .null, .val (.ref r6), .val (.int (1 : Int32))] []))
  obtain ⟨fs57, hr57, hrun57, hended57, hW57, hsame57⟩ := X53.leave (v := none) (fun _ => rfl)
  refine Good.done (X53.returnOut hx Bd.returns (hb hby own_d15_43) hr57) hrun57 hended57 ⟨_, _, rfl, ?_, ⟨_, rfl⟩, hW57, hsame57.mono (by decide) (by decide)⟩
  show Q15_01 Z r0 r6 h0 n0 _ T53.heap _
  rw [e53]
  have f_58 : Fld Z h8 r0 "com/example/orderd/orderd/provider/Notice" "order" "Lcom/example/orderd/orderd/order/Order;" .null := Fld.other W8 f_3 (Or.inr (slot_ne (Or.inr (hw _ (List.mem_of_getElem? (i := 93) rfl))) (Or.inr (hw _ (List.mem_of_getElem? (i := 95) rfl))) (by decide) (t := (.object "com/example/orderd/orderd/order/Order")) (t' := .boolean) (by decide) (by decide)))
  have f_59 : Fld Z h15 r0 "com/example/orderd/orderd/provider/Notice" "order" "Lcom/example/orderd/orderd/order/Order;" .null := Fld.other W15 f_58 (Or.inr (slot_ne (Or.inr (hw _ (List.mem_of_getElem? (i := 93) rfl))) (Or.inr (hw _ (List.mem_of_getElem? (i := 97) rfl))) (by decide) (t := (.object "com/example/orderd/orderd/order/Order")) (t' := (.object "java/lang/String")) (by decide) (by decide)))
  have f_60 : Fld Z h23 r0 "com/example/orderd/orderd/provider/Notice" "order" "Lcom/example/orderd/orderd/order/Order;" .null := Fld.other W23 f_59 (Or.inr (slot_ne (Or.inr (hw _ (List.mem_of_getElem? (i := 93) rfl))) (Or.inr (hw _ (List.mem_of_getElem? (i := 99) rfl))) (by decide) (t := (.object "com/example/orderd/orderd/order/Order")) (t' := (.object "com/example/orderd/orderd/provider/Reply")) (by decide) (by decide)))
  have f_61 : Fld Z h32 r0 "com/example/orderd/orderd/provider/Notice" "order" "Lcom/example/orderd/orderd/order/Order;" .null := Fld.other W32 f_60 (Or.inr (slot_ne (Or.inr (hw _ (List.mem_of_getElem? (i := 93) rfl))) (Or.inr (hw _ (List.mem_of_getElem? (i := 101) rfl))) (by decide) (t := (.object "com/example/orderd/orderd/order/Order")) (t' := (.object "com/example/orderd/orderd/order/Rejection")) (by decide) (by decide)))
  have f_62 : Fld Z h42 r0 "com/example/orderd/orderd/provider/Notice" "order" "Lcom/example/orderd/orderd/order/Order;" .null := Fld.other W42 f_61 (Or.inr (slot_ne (Or.inr (hw _ (List.mem_of_getElem? (i := 93) rfl))) (Or.inr (hw _ (List.mem_of_getElem? (i := 103) rfl))) (by decide) (t := (.object "com/example/orderd/orderd/order/Order")) (t' := (.object "java/lang/String")) (by decide) (by decide)))
  have f_63 : Fld Z h53 r0 "com/example/orderd/orderd/provider/Notice" "order" "Lcom/example/orderd/orderd/order/Order;" .null := Fld.other W53 f_62 (Or.inr (slot_ne (Or.inr (hw _ (List.mem_of_getElem? (i := 93) rfl))) (Or.inr (hw _ (List.mem_of_getElem? (i := 105) rfl))) (by decide) (t := (.object "com/example/orderd/orderd/order/Order")) (t' := .boolean) (by decide) (by decide)))
  have f_64 : Fld Z h15 r0 "com/example/orderd/orderd/provider/Notice" "refund" "Z" (.int (0 : Int32)) := Fld.other W15 f_9 (Or.inr (slot_ne (Or.inr (hw _ (List.mem_of_getElem? (i := 95) rfl))) (Or.inr (hw _ (List.mem_of_getElem? (i := 97) rfl))) (by decide) (t := .boolean) (t' := (.object "java/lang/String")) (by decide) (by decide)))
  have f_65 : Fld Z h23 r0 "com/example/orderd/orderd/provider/Notice" "refund" "Z" (.int (0 : Int32)) := Fld.other W23 f_64 (Or.inr (slot_ne (Or.inr (hw _ (List.mem_of_getElem? (i := 95) rfl))) (Or.inr (hw _ (List.mem_of_getElem? (i := 99) rfl))) (by decide) (t := .boolean) (t' := (.object "com/example/orderd/orderd/provider/Reply")) (by decide) (by decide)))
  have f_66 : Fld Z h32 r0 "com/example/orderd/orderd/provider/Notice" "refund" "Z" (.int (0 : Int32)) := Fld.other W32 f_65 (Or.inr (slot_ne (Or.inr (hw _ (List.mem_of_getElem? (i := 95) rfl))) (Or.inr (hw _ (List.mem_of_getElem? (i := 101) rfl))) (by decide) (t := .boolean) (t' := (.object "com/example/orderd/orderd/order/Rejection")) (by decide) (by decide)))
  have f_67 : Fld Z h42 r0 "com/example/orderd/orderd/provider/Notice" "refund" "Z" (.int (0 : Int32)) := Fld.other W42 f_66 (Or.inr (slot_ne (Or.inr (hw _ (List.mem_of_getElem? (i := 95) rfl))) (Or.inr (hw _ (List.mem_of_getElem? (i := 103) rfl))) (by decide) (t := .boolean) (t' := (.object "java/lang/String")) (by decide) (by decide)))
  have f_68 : Fld Z h53 r0 "com/example/orderd/orderd/provider/Notice" "refund" "Z" (.int (0 : Int32)) := Fld.other W53 f_67 (Or.inr (slot_ne (Or.inr (hw _ (List.mem_of_getElem? (i := 95) rfl))) (Or.inr (hw _ (List.mem_of_getElem? (i := 105) rfl))) (by decide) (t := .boolean) (t' := .boolean) (by decide) (by decide)))
  have f_69 : Fld Z h23 r0 "com/example/orderd/orderd/provider/Notice" "sign" "Ljava/lang/String;" .null := Fld.other W23 f_16 (Or.inr (slot_ne (Or.inr (hw _ (List.mem_of_getElem? (i := 97) rfl))) (Or.inr (hw _ (List.mem_of_getElem? (i := 99) rfl))) (by decide) (t := (.object "java/lang/String")) (t' := (.object "com/example/orderd/orderd/provider/Reply")) (by decide) (by decide)))
  have f_70 : Fld Z h32 r0 "com/example/orderd/orderd/provider/Notice" "sign" "Ljava/lang/String;" .null := Fld.other W32 f_69 (Or.inr (slot_ne (Or.inr (hw _ (List.mem_of_getElem? (i := 97) rfl))) (Or.inr (hw _ (List.mem_of_getElem? (i := 101) rfl))) (by decide) (t := (.object "java/lang/String")) (t' := (.object "com/example/orderd/orderd/order/Rejection")) (by decide) (by decide)))
  have f_71 : Fld Z h42 r0 "com/example/orderd/orderd/provider/Notice" "sign" "Ljava/lang/String;" .null := Fld.other W42 f_70 (Or.inr (slot_ne (Or.inr (hw _ (List.mem_of_getElem? (i := 97) rfl))) (Or.inr (hw _ (List.mem_of_getElem? (i := 103) rfl))) (by decide) (t := (.object "java/lang/String")) (t' := (.object "java/lang/String")) (by decide) (by decide)))
  have f_72 : Fld Z h53 r0 "com/example/orderd/orderd/provider/Notice" "sign" "Ljava/lang/String;" .null := Fld.other W53 f_71 (Or.inr (slot_ne (Or.inr (hw _ (List.mem_of_getElem? (i := 97) rfl))) (Or.inr (hw _ (List.mem_of_getElem? (i := 105) rfl))) (by decide) (t := (.object "java/lang/String")) (t' := .boolean) (by decide) (by decide)))
  have f_73 : Fld Z h32 r0 "com/example/orderd/orderd/provider/Notice" "refusal" "Lcom/example/orderd/orderd/provider/Reply;" .null := Fld.other W32 f_24 (Or.inr (slot_ne (Or.inr (hw _ (List.mem_of_getElem? (i := 99) rfl))) (Or.inr (hw _ (List.mem_of_getElem? (i := 101) rfl))) (by decide) (t := (.object "com/example/orderd/orderd/provider/Reply")) (t' := (.object "com/example/orderd/orderd/order/Rejection")) (by decide) (by decide)))
  have f_74 : Fld Z h42 r0 "com/example/orderd/orderd/provider/Notice" "refusal" "Lcom/example/orderd/orderd/provider/Reply;" .null := Fld.other W42 f_73 (Or.inr (slot_ne (Or.inr (hw _ (List.mem_of_getElem? (i := 99) rfl))) (Or.inr (hw _ (List.mem_of_getElem? (i := 103) rfl))) (by decide) (t := (.object "com/example/orderd/orderd/provider/Reply")) (t' := (.object "java/lang/String")) (by decide) (by decide)))
  have f_75 : Fld Z h53 r0 "com/example/orderd/orderd/provider/Notice" "refusal" "Lcom/example/orderd/orderd/provider/Reply;" .null := Fld.other W53 f_74 (Or.inr (slot_ne (Or.inr (hw _ (List.mem_of_getElem? (i := 99) rfl))) (Or.inr (hw _ (List.mem_of_getElem? (i := 105) rfl))) (by decide) (t := (.object "com/example/orderd/orderd/provider/Reply")) (t' := .boolean) (by decide) (by decide)))
  have f_76 : Fld Z h42 r0 "com/example/orderd/orderd/provider/Notice" "rejection" "Lcom/example/orderd/orderd/order/Rejection;" .null := Fld.other W42 f_33 (Or.inr (slot_ne (Or.inr (hw _ (List.mem_of_getElem? (i := 101) rfl))) (Or.inr (hw _ (List.mem_of_getElem? (i := 103) rfl))) (by decide) (t := (.object "com/example/orderd/orderd/order/Rejection")) (t' := (.object "java/lang/String")) (by decide) (by decide)))
  have f_77 : Fld Z h53 r0 "com/example/orderd/orderd/provider/Notice" "rejection" "Lcom/example/orderd/orderd/order/Rejection;" .null := Fld.other W53 f_76 (Or.inr (slot_ne (Or.inr (hw _ (List.mem_of_getElem? (i := 101) rfl))) (Or.inr (hw _ (List.mem_of_getElem? (i := 105) rfl))) (by decide) (t := (.object "com/example/orderd/orderd/order/Rejection")) (t' := .boolean) (by decide) (by decide)))
  have f_78 : Fld Z h53 r0 "com/example/orderd/orderd/provider/Notice" "reason" "Ljava/lang/String;" (.ref r6) := Fld.other W53 f_43 (Or.inr (slot_ne (Or.inr (hw _ (List.mem_of_getElem? (i := 103) rfl))) (Or.inr (hw _ (List.mem_of_getElem? (i := 105) rfl))) (by decide) (t := (.object "java/lang/String")) (t' := .boolean) (by decide) (by decide)))
  exact ⟨rfl, N53, K56, f_63, f_68, f_72, f_75, f_77, f_78, f_54⟩
theorem own_ef_14_01 (m : MethodId) (x1 : Addr) : entryFrame m #[.null, (.ref x1)] 2 = mkF m 0 #[.val .null, .val (.ref x1)] [] := by first | (simp [entryFrame, mkF, argsToLocals, Value.category]; done) | rfl
def Q14_01 (Z : State) (r1 : Addr) (h0 : Heap) (n0 : Nat) (v : Option Value) (h : Heap) (L : List Loc) : Prop := ∃ (nr : Addr), v = some (.ref nr) ∧ Fr n0 L ∧ Keep h0 h [] ∧ h0.size ≤ nr ∧ Exa Z h nr "com/example/orderd/orderd/provider/Notice" ∧ Fld Z h nr "com/example/orderd/orderd/provider/Notice" "order" "Lcom/example/orderd/orderd/order/Order;" .null ∧ Fld Z h nr "com/example/orderd/orderd/provider/Notice" "refund" "Z" (.int (0 : Int32)) ∧ Fld Z h nr "com/example/orderd/orderd/provider/Notice" "sign" "Ljava/lang/String;" .null ∧ Fld Z h nr "com/example/orderd/orderd/provider/Notice" "refusal" "Lcom/example/orderd/orderd/provider/Reply;" .null ∧ Fld Z h nr "com/example/orderd/orderd/provider/Notice" "rejection" "Lcom/example/orderd/orderd/order/Rejection;" .null ∧ Fld Z h nr "com/example/orderd/orderd/provider/Notice" "reason" "Ljava/lang/String;" (.ref r1) ∧ Fld Z h nr "com/example/orderd/orderd/provider/Notice" "badRequest" "Z" (.int (1 : Int32))
set_option maxRecDepth 65536 in
set_option maxHeartbeats 40000000 in
theorem rm14_01 (l : Launch) (Z : State) (a0 : Array Value) (hw : ∀ d ∈ tables_1, d.before a0 Z = true) (ws : List Jvm.Cond) (r1 : Addr) (h0 : Heap) (n0 : Nat) (Z0 : n0 ≤ h0.size)  :
    MetFree l (⟨"com/example/orderd/orderd/provider/Notice", "badRequest", "(Lcom/example/orderd/orderd/provider/Reply;Ljava/lang/String;)Lcom/example/orderd/orderd/provider/Notice;"⟩ : MethodName) (head1 (Jvm.Cond.code (⟨"com/example/orderd/orderd/provider/Notice", "badRequest", "(Lcom/example/orderd/orderd/provider/Reply;Ljava/lang/String;)Lcom/example/orderd/orderd/provider/Notice;"⟩ : MethodName) prog_26_method_5_code 2 (some (.object "com/example/orderd/orderd/provider/Notice")) :: ws) ({ frames := 2, cells := 1, slots := 7, locals := 32 } : Room)) (fun a U => a = #[.null, (.ref r1)] ∧ Z.Warmed39 U.vm ∧ U.heap = h0) (fun _ _ _ _ _ => True) (fun _ U o U' => ∃ v L, o = .returned v ∧ Q14_01 Z r1 h0 n0 v U'.heap L ∧ FrameEnd U o U' L ({ frames := 2, cells := 1, slots := 7, locals := 32 } : Room).cells ({ frames := 2, cells := 1, slots := 7, locals := 32 } : Room).slots) := by
  refine MetFree.of_bodySF (plainFor_of_name own_pn4) hisR ?_
  intro p e s m args below meth c s₁ Bd hml0 hP hK
  obtain ⟨rfl, hZ, hh⟩ := hP
  have hx := Bd.exec
  have hby := Bd.bytes
  have hml : c.maxLocals = 2 := hml0
  have hown : s.vm.findClass "com/example/orderd/orderd/provider/Notice" = some m.cls := findClass_of_methodNamed Bd.named
  have hnm := (name_of_methodNamed Bd.named Bd.method).1
  have X0 : Stand p l e ({ frames := 2, cells := 1, slots := 7, locals := 32 } : Room) s m #[.null, (.ref r1)] below meth c s₁ [] 0 0 := Stand.of_body Bd
  have e0 : s₁.heap = h0 := by rw [← hh, Bd.state]; rfl
  have N0 := Fr.nil n0
  have KR : Keep h0 h0 [] := Keep.refl h0 _
  show Good p e below (fun o U' => ∃ v L, o = .returned v ∧ Q14_01 Z r1 h0 n0 v U'.heap L ∧ FrameEnd s o U' L ({ frames := 2, cells := 1, slots := 7, locals := 32 } : Room).cells ({ frames := 2, cells := 1, slots := 7, locals := 32 } : Room).slots) _
  refine Good.back (S' := s₁.setTop (mkF m 0 #[.val .null, .val (.ref r1)] [])) (fun t k => castTop (own_ef_14_01 m r1) k) ?_
  show Good p e below _ (s₁.setTop (mkF m 0 #[.val .null, .val (.ref r1)] []))
  obtain ⟨T1, h1, X1, e1, E1, A1, D1, -, st1⟩ := newO X0 hx hZ hown (hw _ (List.mem_of_getElem? (i := 86) rfl)) (hw _ (List.mem_of_getElem? (i := 87) rfl)) (hw _ (List.mem_of_getElem? (i := 84) rfl)) e0 (g := (mkF m 0 #[.val .null, .val (.ref r1)] [])) rfl (hb hby own_d14_0) (by decide) (by decide)
  obtain ⟨b1, g1⟩ : ∃ z, z = h0.size := ⟨_, rfl⟩
  rw [← g1] at A1 D1 st1
  refine Good.back st1 ?_
  have g_b1 : n0 ≤ b1 := Nat.le_trans Z0 (Nat.le_of_eq g1.symm)
  have sz_b1 : h0.size ≤ b1 := Nat.le_trans KR.1 (Nat.le_of_eq g1.symm)
  have Z2 : n0 ≤ h1.size := Nat.le_trans Z0 E1.1
  have K3 : Keep h0 h1 [] := KR.ext E1
  have f_4 : Exa Z h1 b1 "com/example/orderd/orderd/provider/Notice" := A1
  have f_5 : Fld Z h1 b1 "com/example/orderd/orderd/provider/Notice" "order" "Lcom/example/orderd/orderd/order/Order;" .null := D1 (Or.inr (hw _ (List.mem_of_getElem? (i := 93) rfl))) (ty := (.object "com/example/orderd/orderd/order/Order")) (by decide)
  have f_6 : Fld Z h1 b1 "com/example/orderd/orderd/provider/Notice" "refund" "Z" (.int (0 : Int32)) := D1 (Or.inr (hw _ (List.mem_of_getElem? (i := 95) rfl))) (ty := .boolean) (by decide)
  have f_7 : Fld Z h1 b1 "com/example/orderd/orderd/provider/Notice" "sign" "Ljava/lang/String;" .null := D1 (Or.inr (hw _ (List.mem_of_getElem? (i := 97) rfl))) (ty := (.object "java/lang/String")) (by decide)
  have f_8 : Fld Z h1 b1 "com/example/orderd/orderd/provider/Notice" "refusal" "Lcom/example/orderd/orderd/provider/Reply;" .null := D1 (Or.inr (hw _ (List.mem_of_getElem? (i := 99) rfl))) (ty := (.object "com/example/orderd/orderd/provider/Reply")) (by decide)
  have f_9 : Fld Z h1 b1 "com/example/orderd/orderd/provider/Notice" "rejection" "Lcom/example/orderd/orderd/order/Rejection;" .null := D1 (Or.inr (hw _ (List.mem_of_getElem? (i := 101) rfl))) (ty := (.object "com/example/orderd/orderd/order/Rejection")) (by decide)
  have f_10 : Fld Z h1 b1 "com/example/orderd/orderd/provider/Notice" "reason" "Ljava/lang/String;" .null := D1 (Or.inr (hw _ (List.mem_of_getElem? (i := 103) rfl))) (ty := (.object "java/lang/String")) (by decide)
  have f_11 : Fld Z h1 b1 "com/example/orderd/orderd/provider/Notice" "badRequest" "Z" (.int (0 : Int32)) := D1 (Or.inr (hw _ (List.mem_of_getElem? (i := 105) rfl))) (ty := .boolean) (by decide)
  show Good p e below _ (T1.setTop (mkF m 3 #[.val .null, .val (.ref r1)] [(.ref b1)]))
  refine Good.back (fun _ k => XS.dup X1.here hx rfl (hb hby own_d14_3) rfl rfl k) ?_
  show Good p e below _ (T1.setTop (mkF m 4 #[.val .null, .val (.ref r1)] [(.ref b1), (.ref b1)]))
  refine Good.back (fun _ k => XS.aconstNull X1.here hx rfl (hb hby own_d14_4) k) ?_
  show Good p e below _ (T1.setTop (mkF m 5 #[.val .null, .val (.ref r1)] [.null, (.ref b1), (.ref b1)]))
  refine Good.back (fun _ k => XS.iconst X1.here hx rfl (hb hby own_d14_5) k) ?_
  show Good p e below _ (T1.setTop (mkF m 6 #[.val .null, .val (.ref r1)] [(.int (0 : Int32)), .null, (.ref b1), (.ref b1)]))
  refine Good.back (fun _ k => XS.aconstNull X1.here hx rfl (hb hby own_d14_6) k) ?_
  show Good p e below _ (T1.setTop (mkF m 7 #[.val .null, .val (.ref r1)] [.null, (.int (0 : Int32)), .null, (.ref b1), (.ref b1)]))
  refine Good.back (fun _ k => XS.aloadN X1.here hx rfl (hb hby own_d14_7) rfl rfl k) ?_
  show Good p e below _ (T1.setTop (mkF m 8 #[.val .null, .val (.ref r1)] [.null, .null, (.int (0 : Int32)), .null, (.ref b1), (.ref b1)]))
  refine Good.back (fun _ k => XS.aconstNull X1.here hx rfl (hb hby own_d14_8) k) ?_
  show Good p e below _ (T1.setTop (mkF m 9 #[.val .null, .val (.ref r1)] [.null, .null, .null, (.int (0 : Int32)), .null, (.ref b1), (.ref b1)]))
  refine Good.back (fun _ k => XS.aloadN X1.here hx rfl (hb hby own_d14_9) rfl rfl k) ?_
  show Good p e below _ (T1.setTop (mkF m 10 #[.val .null, .val (.ref r1)] [(.ref r1), .null, .null, .null, (.int (0 : Int32)), .null, (.ref b1), (.ref b1)]))
  refine Good.back (fun _ k => XS.iconst X1.here hx rfl (hb hby own_d14_10) k) ?_
  show Good p e below _ (T1.setTop (mkF m 11 #[.val .null, .val (.ref r1)] [(.int (1 : Int32)), (.ref r1), .null, .null, .null, (.int (0 : Int32)), .null, (.ref b1), (.ref b1)]))
  obtain ⟨_, _, ⟨T12, L12, k12, n12⟩, -, X12, ⟨Lc12, hQ12, l12, y12, z12⟩, st12⟩ := X1.specialBack hx (y := (⟨"com/example/orderd/orderd/provider/Notice", "<init>", "(Lcom/example/orderd/orderd/order/Order;ZLjava/lang/String;Lcom/example/orderd/orderd/provider/Reply;Lcom/example/orderd/orderd/order/Rejection;Ljava/lang/String;Z)V"⟩ : MethodName)) rfl hown (mvT hZ (hw _ (List.mem_of_getElem? (i := 88) rfl))) (mvT hZ (hw _ (List.mem_of_getElem? (i := 89) rfl))) (mvT hZ (hw _ (List.mem_of_getElem? (i := 90) rfl))) (by decide) (backOf (W := 1) (rm15_01 l Z a0 hw [] b1 r1  h1 n0 Z2 f_4 g_b1 f_5 f_6 f_7 f_8 f_9 f_10 f_11) hZ (hw _ (List.mem_of_getElem? (i := 90) rfl)) (hw _ (List.mem_of_getElem? (i := 84) rfl)) (by decide) (by decide)) (g := (mkF m 11 #[.val .null, .val (.ref r1)] [(.int (1 : Int32)), (.ref r1), .null, .null, .null, (.int (0 : Int32)), .null, (.ref b1), (.ref b1)])) rfl (by rw [hml]; rfl) (Steps.refl _) (a := b1) (argsL := [.null, (.int (0 : Int32)), .null, .null, .null, (.ref r1), (.int (1 : Int32))]) (rest := [(.ref b1)]) (lenOf own_pd257 rfl) rfl (by show 2 * 0 + _ ≤ _; exact Nat.le_of_eq rfl) (hb hby own_d14_11) (fun _ _ => ⟨rfl, e1, (by decide : 1 + 0 ≤ _), (by decide : 7 + 0 ≤ _)⟩)
  dsimp only [Pt.U, Pt.locs, Pt.cells, Pt.slots] at X12 l12 y12 z12 st12 hQ12
  subst l12 y12 z12
  obtain ⟨rfl, N12q, Kq12, o12_0, o12_1, o12_2, o12_3, o12_4, o12_5, o12_6⟩ := hQ12
  have N12 := Fr.app N0 N12q
  have Z13 : n0 ≤ T12.heap.size := Nat.le_trans Z2 Kq12.1
  have K14 : Keep h0 T12.heap [] := K3.trans Kq12 (allS (Or.inr sz_b1) all0)
  refine Good.back (fun _ k => st12.trans k) ?_
  show Good p e below _ (T12.setTop (mkF m 14 #[.val .null, .val (.ref r1)] [(.ref b1)]))
  obtain ⟨fs15, hr15, hrun15, hended15, hW15, hsame15⟩ := X12.leave (v := some (.ref b1)) (fun h => by rw [Bd.returns] at h; cases h)
  refine Good.done (retOut X12 hx Bd.returns rfl (Or.inr (Or.inr (Or.inr (Or.inr ⟨rfl, rfl, rfl⟩)))) (hb hby own_d14_14) hr15) hrun15 hended15 ⟨_, _, rfl, ?_, ⟨_, rfl⟩, hW15, hsame15.mono (by decide) (by decide)⟩
  show Q14_01 Z r1 h0 n0 _ T12.heap _
  have f_16 : Exa Z T12.heap b1 "com/example/orderd/orderd/provider/Notice" := Exa.keep f_4 Kq12
  exact ⟨_, rfl, N12, K14, sz_b1, f_16, o12_0, o12_1, o12_2, o12_3, o12_4, o12_5, o12_6⟩
theorem own_ef_15_10 (m : MethodId) (x0 : Addr) (x2 : Int32) (x4 : Addr) (x7 : Int32) : entryFrame m #[(.ref x0), .null, (.int x2), .null, (.ref x4), .null, .null, (.int x7)] 8 = mkF m 0 #[.val (.ref x0), .val .null, .val (.int x2), .val .null, .val (.ref x4), .val .null, .val .null, .val (.int x7)] [] := by first | (simp [entryFrame, mkF, argsToLocals, Value.category]; done) | rfl
def Q15_10 (Z : State) (r0 : Addr) (r4 : Addr) (h0 : Heap) (n0 : Nat) (v : Option Value) (h : Heap) (L : List Loc) : Prop := v = none ∧ Fr n0 L ∧ Keep h0 h [r0] ∧ Fld Z h r0 "com/example/orderd/orderd/provider/Notice" "order" "Lcom/example/orderd/orderd/order/Order;" .null ∧ Fld Z h r0 "com/example/orderd/orderd/provider/Notice" "refund" "Z" (.int (0 : Int32)) ∧ Fld Z h r0 "com/example/orderd/orderd/provider/Notice" "sign" "Ljava/lang/String;" .null ∧ Fld Z h r0 "com/example/orderd/orderd/provider/Notice" "refusal" "Lcom/example/orderd/orderd/provider/Reply;" (.ref r4) ∧ Fld Z h r0 "com/example/orderd/orderd/provider/Notice" "rejection" "Lcom/example/orderd/orderd/order/Rejection;" .null ∧ Fld Z h r0 "com/example/orderd/orderd/provider/Notice" "reason" "Ljava/lang/String;" .null ∧ Fld Z h r0 "com/example/orderd/orderd/provider/Notice" "badRequest" "Z" (.int (1 : Int32))
set_option maxRecDepth 65536 in
set_option maxHeartbeats 40000000 in
theorem rm15_10 (l : Launch) (Z : State) (a0 : Array Value) (hw : ∀ d ∈ tables_1, d.before a0 Z = true) (ws : List Jvm.Cond) (r0 : Addr) (r4 : Addr) (h0 : Heap) (n0 : Nat) (Z0 : n0 ≤ h0.size) (E0 : Exa Z h0 r0 "com/example/orderd/orderd/provider/Notice") (g0 : n0 ≤ r0) (F_order : Fld Z h0 r0 "com/example/orderd/orderd/provider/Notice" "order" "Lcom/example/orderd/orderd/order/Order;" .null) (F_refund : Fld Z h0 r0 "com/example/orderd/orderd/provider/Notice" "refund" "Z" (.int (0 : Int32))) (F_sign : Fld Z h0 r0 "com/example/orderd/orderd/provider/Notice" "sign" "Ljava/lang/String;" .null) (F_refusal : Fld Z h0 r0 "com/example/orderd/orderd/provider/Notice" "refusal" "Lcom/example/orderd/orderd/provider/Reply;" .null) (F_rejection : Fld Z h0 r0 "com/example/orderd/orderd/provider/Notice" "rejection" "Lcom/example/orderd/orderd/order/Rejection;" .null) (F_reason : Fld Z h0 r0 "com/example/orderd/orderd/provider/Notice" "reason" "Ljava/lang/String;" .null) (F_badRequest : Fld Z h0 r0 "com/example/orderd/orderd/provider/Notice" "badRequest" "Z" (.int (0 : Int32))) :
    MetFree l (⟨"com/example/orderd/orderd/provider/Notice", "<init>", "(Lcom/example/orderd/orderd/order/Order;ZLjava/lang/String;Lcom/example/orderd/orderd/provider/Reply;Lcom/example/orderd/orderd/order/Rejection;Ljava/lang/String;Z)V"⟩ : MethodName) (head1 (Jvm.Cond.code (⟨"com/example/orderd/orderd/provider/Notice", "<init>", "(Lcom/example/orderd/orderd/order/Order;ZLjava/lang/String;Lcom/example/orderd/orderd/provider/Reply;Lcom/example/orderd/orderd/order/Rejection;Ljava/lang/String;Z)V"⟩ : MethodName) prog_26_method_1_code 8 none :: ws) ({ frames := 1, cells := 0, slots := 0, locals := 12 } : Room)) (fun a U => a = #[(.ref r0), .null, (.int (0 : Int32)), .null, (.ref r4), .null, .null, (.int (1 : Int32))] ∧ Z.Warmed39 U.vm ∧ U.heap = h0) (fun _ _ _ _ _ => True) (fun _ U o U' => ∃ v L, o = .returned v ∧ Q15_10 Z r0 r4 h0 n0 v U'.heap L ∧ FrameEnd U o U' L ({ frames := 1, cells := 0, slots := 0, locals := 12 } : Room).cells ({ frames := 1, cells := 0, slots := 0, locals := 12 } : Room).slots) := by
  refine MetFree.of_bodySF (plainFor_of_name own_pn4) hisR ?_
  intro p e s m args below meth c s₁ Bd hml0 hP hK
  obtain ⟨rfl, hZ, hh⟩ := hP
  have hx := Bd.exec
  have hby := Bd.bytes
  have hml : c.maxLocals = 8 := hml0
  have hown : s.vm.findClass "com/example/orderd/orderd/provider/Notice" = some m.cls := findClass_of_methodNamed Bd.named
  have hnm := (name_of_methodNamed Bd.named Bd.method).1
  have X0 : Stand p l e ({ frames := 1, cells := 0, slots := 0, locals := 12 } : Room) s m #[(.ref r0), .null, (.int (0 : Int32)), .null, (.ref r4), .null, .null, (.int (1 : Int32))] below meth c s₁ [] 0 0 := Stand.of_body Bd
  have e0 : s₁.heap = h0 := by rw [← hh, Bd.state]; rfl
  have N0 := Fr.nil n0
  have KR : Keep h0 h0 [r0] := Keep.refl h0 _
  show Good p e below (fun o U' => ∃ v L, o = .returned v ∧ Q15_10 Z r0 r4 h0 n0 v U'.heap L ∧ FrameEnd s o U' L ({ frames := 1, cells := 0, slots := 0, locals := 12 } : Room).cells ({ frames := 1, cells := 0, slots := 0, locals := 12 } : Room).slots) _
  refine Good.back (S' := s₁.setTop (mkF m 0 #[.val (.ref r0), .val .null, .val (.int (0 : Int32)), .val .null, .val (.ref r4), .val .null, .val .null, .val (.int (1 : Int32))] [])) (fun t k => castTop (own_ef_15_10 m r0 (0 : Int32) r4 (1 : Int32)) k) ?_
  show Good p e below _ (s₁.setTop (mkF m 0 #[.val (.ref r0), .val .null, .val (.int (0 : Int32)), .val .null, .val (.ref r4), .val .null, .val .null, .val (.int (1 : Int32))] []))
  refine Good.back (fun _ k => XS.aloadN X0.here hx rfl (hb hby own_d15_0) rfl rfl k) ?_
  show Good p e below _ (s₁.setTop (mkF m 1 #[.val (.ref r0), .val .null, .val (.int (0 : Int32)), .val .null, .val (.ref r4), .val .null, .val .null, .val (.int (1 : Int32))] [(.ref r0)]))
  obtain ⟨T1, X1, e1, st1⟩ := initO X0 hx hZ hown (hw _ (List.mem_of_getElem? (i := 91) rfl)) (hw _ (List.mem_of_getElem? (i := 21) rfl)) (hw _ (List.mem_of_getElem? (i := 22) rfl)) e0 (g := (mkF m 1 #[.val (.ref r0), .val .null, .val (.int (0 : Int32)), .val .null, .val (.ref r4), .val .null, .val .null, .val (.int (1 : Int32))] [(.ref r0)])) rfl (by rw [hml]; rfl) rfl (hb hby own_d15_1) (by decide) (W := 0) (by show 2 * 0 + _ ≤ _; exact Nat.le_of_eq rfl) (by decide)
  refine Good.back st1 ?_
  show Good p e below _ (T1.setTop (mkF m 4 #[.val (.ref r0), .val .null, .val (.int (0 : Int32)), .val .null, .val (.ref r4), .val .null, .val .null, .val (.int (1 : Int32))] []))
  refine Good.back (fun _ k => XS.aloadN X1.here hx rfl (hb hby own_d15_4) rfl rfl k) ?_
  show Good p e below _ (T1.setTop (mkF m 5 #[.val (.ref r0), .val .null, .val (.int (0 : Int32)), .val .null, .val (.ref r4), .val .null, .val .null, .val (.int (1 : Int32))] [(.ref r0)]))
  refine Good.back (fun _ k => XS.aloadN X1.here hx rfl (hb hby own_d15_5) rfl rfl k) ?_
  show Good p e below _ (T1.setTop (mkF m 6 #[.val (.ref r0), .val .null, .val (.int (0 : Int32)), .val .null, .val (.ref r4), .val .null, .val .null, .val (.int (1 : Int32))] [.null, (.ref r0)]))
  obtain ⟨T2, h2, X2, e2, W2, st2⟩ := putF X1 hx hZ hown (host := "") (Or.inl (hw _ (List.mem_of_getElem? (i := 92) rfl))) Via.refl e1 F_order E0 (Or.inr ⟨(hw _ (List.mem_of_getElem? (i := 93) rfl)), rfl, hnm⟩) (hw _ (List.mem_of_getElem? (i := 87) rfl)) (ty := (.object "com/example/orderd/orderd/order/Order")) (by decide) rfl rfl (g := (mkF m 6 #[.val (.ref r0), .val .null, .val (.int (0 : Int32)), .val .null, .val (.ref r4), .val .null, .val .null, .val (.int (1 : Int32))] [.null, (.ref r0)])) rfl rfl (hb hby own_d15_6)
  refine Good.back st2 ?_
  have f_3 : Fld Z h2 r0 "com/example/orderd/orderd/provider/Notice" "order" "Lcom/example/orderd/orderd/order/Order;" .null := Fld.same W2 F_order
  have N2 := Fr.snoc X2 N0 g0
  have Z4 : n0 ≤ h2.size := Nat.le_trans Z0 (Keep.of_wr W2).1
  have K5 : Keep h0 h2 [r0] := KR.wr W2 (Or.inl (List.mem_of_getElem? (i := 0) rfl))
  show Good p e below _ (T2.setTop (mkF m 9 #[.val (.ref r0), .val .null, .val (.int (0 : Int32)), .val .null, .val (.ref r4), .val .null, .val .null, .val (.int (1 : Int32))] []))
  refine Good.back (fun _ k => XS.aloadN X2.here hx rfl (hb hby own_d15_9) rfl rfl k) ?_
  show Good p e below _ (T2.setTop (mkF m 10 #[.val (.ref r0), .val .null, .val (.int (0 : Int32)), .val .null, .val (.ref r4), .val .null, .val .null, .val (.int (1 : Int32))] [(.ref r0)]))
  refine Good.back (fun _ k => XS.iloadN X2.here hx rfl (hb hby own_d15_10) rfl k) ?_
  show Good p e below _ (T2.setTop (mkF m 11 #[.val (.ref r0), .val .null, .val (.int (0 : Int32)), .val .null, .val (.ref r4), .val .null, .val .null, .val (.int (1 : Int32))] [(.int (0 : Int32)), (.ref r0)]))
  have f_6 : Fld Z h2 r0 "com/example/orderd/orderd/provider/Notice" "refund" "Z" (.int (0 : Int32)) := Fld.other W2 F_refund (Or.inr (slot_ne (Or.inr (hw _ (List.mem_of_getElem? (i := 95) rfl))) (Or.inr (hw _ (List.mem_of_getElem? (i := 93) rfl))) (by decide) (t := .boolean) (t' := (.object "com/example/orderd/orderd/order/Order")) (by decide) (by decide)))
  have f_7 : Exa Z h2 r0 "com/example/orderd/orderd/provider/Notice" := Exa.wr W2 E0
  obtain ⟨T8, h8, X8, e8, W8, st8⟩ := putFN X2 hx hZ hown (hw _ (List.mem_of_getElem? (i := 94) rfl)) Via.refl e2 f_6 f_7 (Or.inr ⟨(hw _ (List.mem_of_getElem? (i := 95) rfl)), rfl, hnm⟩) (hw _ (List.mem_of_getElem? (i := 87) rfl)) (ty := .boolean) (v' := (.int (0 : Int32))) (by decide) rfl (by decide) (g := (mkF m 11 #[.val (.ref r0), .val .null, .val (.int (0 : Int32)), .val .null, .val (.ref r4), .val .null, .val .null, .val (.int (1 : Int32))] [(.int (0 : Int32)), (.ref r0)])) rfl rfl (hb hby own_d15_11)
  refine Good.back st8 ?_
  have f_9 : Fld Z h8 r0 "com/example/orderd/orderd/provider/Notice" "refund" "Z" (.int (0 : Int32)) := Fld.same W8 f_6
  have N8 := Fr.snoc X8 N2 g0
  have Z10 : n0 ≤ h8.size := Nat.le_trans Z4 (Keep.of_wr W8).1
  have K11 : Keep h0 h8 [r0] := K5.wr W8 (Or.inl (List.mem_of_getElem? (i := 0) rfl))
  show Good p e below _ (T8.setTop (mkF m 14 #[.val (.ref r0), .val .null, .val (.int (0 : Int32)), .val .null, .val (.ref r4), .val .null, .val .null, .val (.int (1 : Int32))] []))
  refine Good.back (fun _ k => XS.aloadN X8.here hx rfl (hb hby own_d15_14) rfl rfl k) ?_
  show Good p e below _ (T8.setTop (mkF m 15 #[.val (.ref r0), .val .null, .val (.int (0 : Int32)), .val .null, .val (.ref r4), .val .null, .val .null, .val (.int (1 : Int32))] [(.ref r0)]))
  refine Good.back (fun _ k => XS.aloadN X8.here hx rfl (hb hby own_d15_15) rfl rfl k) ?_
  show Good p e below _ (T8.setTop (mkF m 16 #[.val (.ref r0), .val .null, .val (.int (0 : Int32)), .val .null, .val (.ref r4), .val .null, .val .null, .val (.int (1 : Int32))] [.null, (.ref r0)]))
  have f_12 : Fld Z h2 r0 "com/example/orderd/orderd/provider/Notice" "sign" "Ljava/lang/String;" .null := Fld.other W2 F_sign (Or.inr (slot_ne (Or.inr (hw _ (List.mem_of_getElem? (i := 97) rfl))) (Or.inr (hw _ (List.mem_of_getElem? (i := 93) rfl))) (by decide) (t := (.object "java/lang/String")) (t' := (.object "com/example/orderd/orderd/order/Order")) (by decide) (by decide)))
  have f_13 : Fld Z h8 r0 "com/example/orderd/orderd/provider/Notice" "sign" "Ljava/lang/String;" .null := Fld.other W8 f_12 (Or.inr (slot_ne (Or.inr (hw _ (List.mem_of_getElem? (i := 97) rfl))) (Or.inr (hw _ (List.mem_of_getElem? (i := 95) rfl))) (by decide) (t := (.object "java/lang/String")) (t' := .boolean) (by decide) (by decide)))
  have f_14 : Exa Z h8 r0 "com/example/orderd/orderd/provider/Notice" := Exa.wr W8 f_7
  obtain ⟨T15, h15, X15, e15, W15, st15⟩ := putF X8 hx hZ hown (host := "") (Or.inl (hw _ (List.mem_of_getElem? (i := 96) rfl))) Via.refl e8 f_13 f_14 (Or.inr ⟨(hw _ (List.mem_of_getElem? (i := 97) rfl)), rfl, hnm⟩) (hw _ (List.mem_of_getElem? (i := 87) rfl)) (ty := (.object "java/lang/String")) (by decide) rfl rfl (g := (mkF m 16 #[.val (.ref r0), .val .null, .val (.int (0 : Int32)), .val .null, .val (.ref r4), .val .null, .val .null, .val (.int (1 : Int32))] [.null, (.ref r0)])) rfl rfl (hb hby own_d15_16)
  refine Good.back st15 ?_
  have f_16 : Fld Z h15 r0 "com/example/orderd/orderd/provider/Notice" "sign" "Ljava/lang/String;" .null := Fld.same W15 f_13
  have N15 := Fr.snoc X15 N8 g0
  have Z17 : n0 ≤ h15.size := Nat.le_trans Z10 (Keep.of_wr W15).1
  have K18 : Keep h0 h15 [r0] := K11.wr W15 (Or.inl (List.mem_of_getElem? (i := 0) rfl))
  show Good p e below _ (T15.setTop (mkF m 19 #[.val (.ref r0), .val .null, .val (.int (0 : Int32)), .val .null, .val (.ref r4), .val .null, .val .null, .val (.int (1 : Int32))] []))
  refine Good.back (fun _ k => XS.aloadN X15.here hx rfl (hb hby own_d15_19) rfl rfl k) ?_
  show Good p e below _ (T15.setTop (mkF m 20 #[.val (.ref r0), .val .null, .val (.int (0 : Int32)), .val .null, .val (.ref r4), .val .null, .val .null, .val (.int (1 : Int32))] [(.ref r0)]))
  refine Good.back (fun _ k => XS.aload X15.here hx rfl (hb hby own_d15_20) rfl rfl k) ?_
  show Good p e below _ (T15.setTop (mkF m 22 #[.val (.ref r0), .val .null, .val (.int (0 : Int32)), .val .null, .val (.ref r4), .val .null, .val .null, .val (.int (1 : Int32))] [(.ref r4), (.ref r0)]))
  have f_19 : Fld Z h2 r0 "com/example/orderd/orderd/provider/Notice" "refusal" "Lcom/example/orderd/orderd/provider/Reply;" .null := Fld.other W2 F_refusal (Or.inr (slot_ne (Or.inr (hw _ (List.mem_of_getElem? (i := 99) rfl))) (Or.inr (hw _ (List.mem_of_getElem? (i := 93) rfl))) (by decide) (t := (.object "com/example/orderd/orderd/provider/Reply")) (t' := (.object "com/example/orderd/orderd/order/Order")) (by decide) (by decide)))
  have f_20 : Fld Z h8 r0 "com/example/orderd/orderd/provider/Notice" "refusal" "Lcom/example/orderd/orderd/provider/Reply;" .null := Fld.other W8 f_19 (Or.inr (slot_ne (Or.inr (hw _ (List.mem_of_getElem? (i := 99) rfl))) (Or.inr (hw _ (List.mem_of_getElem? (i := 95) rfl))) (by decide) (t := (.object "com/example/orderd/orderd/provider/Reply")) (t' := .boolean) (by decide) (by decide)))
  have f_21 : Fld Z h15 r0 "com/example/orderd/orderd/provider/Notice" "refusal" "Lcom/example/orderd/orderd/provider/Reply;" .null := Fld.other W15 f_20 (Or.inr (slot_ne (Or.inr (hw _ (List.mem_of_getElem? (i := 99) rfl))) (Or.inr (hw _ (List.mem_of_getElem? (i := 97) rfl))) (by decide) (t := (.object "com/example/orderd/orderd/provider/Reply")) (t' := (.object "java/lang/String")) (by decide) (by decide)))
  have f_22 : Exa Z h15 r0 "com/example/orderd/orderd/provider/Notice" := Exa.wr W15 f_14
  obtain ⟨T23, h23, X23, e23, W23, st23⟩ := putF X15 hx hZ hown (host := "") (Or.inl (hw _ (List.mem_of_getElem? (i := 98) rfl))) Via.refl e15 f_21 f_22 (Or.inr ⟨(hw _ (List.mem_of_getElem? (i := 99) rfl)), rfl, hnm⟩) (hw _ (List.mem_of_getElem? (i := 87) rfl)) (ty := (.object "com/example/orderd/orderd/provider/Reply")) (by decide) rfl rfl (g := (mkF m 22 #[.val (.ref r0), .val .null, .val (.int (0 : Int32)), .val .null, .val (.ref r4), .val .null, .val .null, .val (.int (1 : Int32))] [(.ref r4), (.ref r0)])) rfl rfl (hb hby own_d15_22)
  refine Good.back st23 ?_
  have f_24 : Fld Z h23 r0 "com/example/orderd/orderd/provider/Notice" "refusal" "Lcom/example/orderd/orderd/provider/Reply;" (.ref r4) := Fld.same W23 f_21
  have N23 := Fr.snoc X23 N15 g0
  have Z25 : n0 ≤ h23.size := Nat.le_trans Z17 (Keep.of_wr W23).1
  have K26 : Keep h0 h23 [r0] := K18.wr W23 (Or.inl (List.mem_of_getElem? (i := 0) rfl))
  show Good p e below _ (T23.setTop (mkF m 25 #[.val (.ref r0), .val .null, .val (.int (0 : Int32)), .val .null, .val (.ref r4), .val .null, .val .null, .val (.int (1 : Int32))] []))
  refine Good.back (fun _ k => XS.aloadN X23.here hx rfl (hb hby own_d15_25) rfl rfl k) ?_
  show Good p e below _ (T23.setTop (mkF m 26 #[.val (.ref r0), .val .null, .val (.int (0 : Int32)), .val .null, .val (.ref r4), .val .null, .val .null, .val (.int (1 : Int32))] [(.ref r0)]))
  refine Good.back (fun _ k => XS.aload X23.here hx rfl (hb hby own_d15_26) rfl rfl k) ?_
  show Good p e below _ (T23.setTop (mkF m 28 #[.val (.ref r0), .val .null, .val (.int (0 : Int32)), .val .null, .val (.ref r4), .val .null, .val .null, .val (.int (1 : Int32))] [.null, (.ref r0)]))
  have f_27 : Fld Z h2 r0 "com/example/orderd/orderd/provider/Notice" "rejection" "Lcom/example/orderd/orderd/order/Rejection;" .null := Fld.other W2 F_rejection (Or.inr (slot_ne (Or.inr (hw _ (List.mem_of_getElem? (i := 101) rfl))) (Or.inr (hw _ (List.mem_of_getElem? (i := 93) rfl))) (by decide) (t := (.object "com/example/orderd/orderd/order/Rejection")) (t' := (.object "com/example/orderd/orderd/order/Order")) (by decide) (by decide)))
  have f_28 : Fld Z h8 r0 "com/example/orderd/orderd/provider/Notice" "rejection" "Lcom/example/orderd/orderd/order/Rejection;" .null := Fld.other W8 f_27 (Or.inr (slot_ne (Or.inr (hw _ (List.mem_of_getElem? (i := 101) rfl))) (Or.inr (hw _ (List.mem_of_getElem? (i := 95) rfl))) (by decide) (t := (.object "com/example/orderd/orderd/order/Rejection")) (t' := .boolean) (by decide) (by decide)))
  have f_29 : Fld Z h15 r0 "com/example/orderd/orderd/provider/Notice" "rejection" "Lcom/example/orderd/orderd/order/Rejection;" .null := Fld.other W15 f_28 (Or.inr (slot_ne (Or.inr (hw _ (List.mem_of_getElem? (i := 101) rfl))) (Or.inr (hw _ (List.mem_of_getElem? (i := 97) rfl))) (by decide) (t := (.object "com/example/orderd/orderd/order/Rejection")) (t' := (.object "java/lang/String")) (by decide) (by decide)))
  have f_30 : Fld Z h23 r0 "com/example/orderd/orderd/provider/Notice" "rejection" "Lcom/example/orderd/orderd/order/Rejection;" .null := Fld.other W23 f_29 (Or.inr (slot_ne (Or.inr (hw _ (List.mem_of_getElem? (i := 101) rfl))) (Or.inr (hw _ (List.mem_of_getElem? (i := 99) rfl))) (by decide) (t := (.object "com/example/orderd/orderd/order/Rejection")) (t' := (.object "com/example/orderd/orderd/provider/Reply")) (by decide) (by decide)))
  have f_31 : Exa Z h23 r0 "com/example/orderd/orderd/provider/Notice" := Exa.wr W23 f_22
  obtain ⟨T32, h32, X32, e32, W32, st32⟩ := putF X23 hx hZ hown (host := "") (Or.inl (hw _ (List.mem_of_getElem? (i := 100) rfl))) Via.refl e23 f_30 f_31 (Or.inr ⟨(hw _ (List.mem_of_getElem? (i := 101) rfl)), rfl, hnm⟩) (hw _ (List.mem_of_getElem? (i := 87) rfl)) (ty := (.object "com/example/orderd/orderd/order/Rejection")) (by decide) rfl rfl (g := (mkF m 28 #[.val (.ref r0), .val .null, .val (.int (0 : Int32)), .val .null, .val (.ref r4), .val .null, .val .null, .val (.int (1 : Int32))] [.null, (.ref r0)])) rfl rfl (hb hby own_d15_28)
  refine Good.back st32 ?_
  have f_33 : Fld Z h32 r0 "com/example/orderd/orderd/provider/Notice" "rejection" "Lcom/example/orderd/orderd/order/Rejection;" .null := Fld.same W32 f_30
  have N32 := Fr.snoc X32 N23 g0
  have Z34 : n0 ≤ h32.size := Nat.le_trans Z25 (Keep.of_wr W32).1
  have K35 : Keep h0 h32 [r0] := K26.wr W32 (Or.inl (List.mem_of_getElem? (i := 0) rfl))
  show Good p e below _ (T32.setTop (mkF m 31 #[.val (.ref r0), .val .null, .val (.int (0 : Int32)), .val .null, .val (.ref r4), .val .null, .val .null, .val (.int (1 : Int32))] []))
  refine Good.back (fun _ k => XS.aloadN X32.here hx rfl (hb hby own_d15_31) rfl rfl k) ?_
  show Good p e below _ (T32.setTop (mkF m 32 #[.val (.ref r0), .val .null, .val (.int (0 : Int32)), .val .null, .val (.ref r4), .val .null, .val .null, .val (.int (1 : Int32))] [(.ref r0)]))
  refine Good.back (fun _ k => XS.aload X32.here hx rfl (hb hby own_d15_32) rfl rfl k) ?_
  show Good p e below _ (T32.setTop (mkF m 34 #[.val (.ref r0), .val .null, .val (.int (0 : Int32)), .val .null, .val (.ref r4), .val .null, .val .null, .val (.int (1 : Int32))] [.null, (.ref r0)]))
  have f_36 : Fld Z h2 r0 "com/example/orderd/orderd/provider/Notice" "reason" "Ljava/lang/String;" .null := Fld.other W2 F_reason (Or.inr (slot_ne (Or.inr (hw _ (List.mem_of_getElem? (i := 103) rfl))) (Or.inr (hw _ (List.mem_of_getElem? (i := 93) rfl))) (by decide) (t := (.object "java/lang/String")) (t' := (.object "com/example/orderd/orderd/order/Order")) (by decide) (by decide)))
  have f_37 : Fld Z h8 r0 "com/example/orderd/orderd/provider/Notice" "reason" "Ljava/lang/String;" .null := Fld.other W8 f_36 (Or.inr (slot_ne (Or.inr (hw _ (List.mem_of_getElem? (i := 103) rfl))) (Or.inr (hw _ (List.mem_of_getElem? (i := 95) rfl))) (by decide) (t := (.object "java/lang/String")) (t' := .boolean) (by decide) (by decide)))
  have f_38 : Fld Z h15 r0 "com/example/orderd/orderd/provider/Notice" "reason" "Ljava/lang/String;" .null := Fld.other W15 f_37 (Or.inr (slot_ne (Or.inr (hw _ (List.mem_of_getElem? (i := 103) rfl))) (Or.inr (hw _ (List.mem_of_getElem? (i := 97) rfl))) (by decide) (t := (.object "java/lang/String")) (t' := (.object "java/lang/String")) (by decide) (by decide)))
  have f_39 : Fld Z h23 r0 "com/example/orderd/orderd/provider/Notice" "reason" "Ljava/lang/String;" .null := Fld.other W23 f_38 (Or.inr (slot_ne (Or.inr (hw _ (List.mem_of_getElem? (i := 103) rfl))) (Or.inr (hw _ (List.mem_of_getElem? (i := 99) rfl))) (by decide) (t := (.object "java/lang/String")) (t' := (.object "com/example/orderd/orderd/provider/Reply")) (by decide) (by decide)))
  have f_40 : Fld Z h32 r0 "com/example/orderd/orderd/provider/Notice" "reason" "Ljava/lang/String;" .null := Fld.other W32 f_39 (Or.inr (slot_ne (Or.inr (hw _ (List.mem_of_getElem? (i := 103) rfl))) (Or.inr (hw _ (List.mem_of_getElem? (i := 101) rfl))) (by decide) (t := (.object "java/lang/String")) (t' := (.object "com/example/orderd/orderd/order/Rejection")) (by decide) (by decide)))
  have f_41 : Exa Z h32 r0 "com/example/orderd/orderd/provider/Notice" := Exa.wr W32 f_31
  obtain ⟨T42, h42, X42, e42, W42, st42⟩ := putF X32 hx hZ hown (host := "") (Or.inl (hw _ (List.mem_of_getElem? (i := 102) rfl))) Via.refl e32 f_40 f_41 (Or.inr ⟨(hw _ (List.mem_of_getElem? (i := 103) rfl)), rfl, hnm⟩) (hw _ (List.mem_of_getElem? (i := 87) rfl)) (ty := (.object "java/lang/String")) (by decide) rfl rfl (g := (mkF m 34 #[.val (.ref r0), .val .null, .val (.int (0 : Int32)), .val .null, .val (.ref r4), .val .null, .val .null, .val (.int (1 : Int32))] [.null, (.ref r0)])) rfl rfl (hb hby own_d15_34)
  refine Good.back st42 ?_
  have f_43 : Fld Z h42 r0 "com/example/orderd/orderd/provider/Notice" "reason" "Ljava/lang/String;" .null := Fld.same W42 f_40
  have N42 := Fr.snoc X42 N32 g0
  have Z44 : n0 ≤ h42.size := Nat.le_trans Z34 (Keep.of_wr W42).1
  have K45 : Keep h0 h42 [r0] := K35.wr W42 (Or.inl (List.mem_of_getElem? (i := 0) rfl))
  show Good p e below _ (T42.setTop (mkF m 37 #[.val (.ref r0), .val .null, .val (.int (0 : Int32)), .val .null, .val (.ref r4), .val .null, .val .null, .val (.int (1 : Int32))] []))
  refine Good.back (fun _ k => XS.aloadN X42.here hx rfl (hb hby own_d15_37) rfl rfl k) ?_
  show Good p e below _ (T42.setTop (mkF m 38 #[.val (.ref r0), .val .null, .val (.int (0 : Int32)), .val .null, .val (.ref r4), .val .null, .val .null, .val (.int (1 : Int32))] [(.ref r0)]))
  refine Good.back (fun _ k => XS.iload X42.here hx rfl (hb hby own_d15_38) rfl k) ?_
  show Good p e below _ (T42.setTop (mkF m 40 #[.val (.ref r0), .val .null, .val (.int (0 : Int32)), .val .null, .val (.ref r4), .val .null, .val .null, .val (.int (1 : Int32))] [(.int (1 : Int32)), (.ref r0)]))
  have f_46 : Fld Z h2 r0 "com/example/orderd/orderd/provider/Notice" "badRequest" "Z" (.int (0 : Int32)) := Fld.other W2 F_badRequest (Or.inr (slot_ne (Or.inr (hw _ (List.mem_of_getElem? (i := 105) rfl))) (Or.inr (hw _ (List.mem_of_getElem? (i := 93) rfl))) (by decide) (t := .boolean) (t' := (.object "com/example/orderd/orderd/order/Order")) (by decide) (by decide)))
  have f_47 : Fld Z h8 r0 "com/example/orderd/orderd/provider/Notice" "badRequest" "Z" (.int (0 : Int32)) := Fld.other W8 f_46 (Or.inr (slot_ne (Or.inr (hw _ (List.mem_of_getElem? (i := 105) rfl))) (Or.inr (hw _ (List.mem_of_getElem? (i := 95) rfl))) (by decide) (t := .boolean) (t' := .boolean) (by decide) (by decide)))
  have f_48 : Fld Z h15 r0 "com/example/orderd/orderd/provider/Notice" "badRequest" "Z" (.int (0 : Int32)) := Fld.other W15 f_47 (Or.inr (slot_ne (Or.inr (hw _ (List.mem_of_getElem? (i := 105) rfl))) (Or.inr (hw _ (List.mem_of_getElem? (i := 97) rfl))) (by decide) (t := .boolean) (t' := (.object "java/lang/String")) (by decide) (by decide)))
  have f_49 : Fld Z h23 r0 "com/example/orderd/orderd/provider/Notice" "badRequest" "Z" (.int (0 : Int32)) := Fld.other W23 f_48 (Or.inr (slot_ne (Or.inr (hw _ (List.mem_of_getElem? (i := 105) rfl))) (Or.inr (hw _ (List.mem_of_getElem? (i := 99) rfl))) (by decide) (t := .boolean) (t' := (.object "com/example/orderd/orderd/provider/Reply")) (by decide) (by decide)))
  have f_50 : Fld Z h32 r0 "com/example/orderd/orderd/provider/Notice" "badRequest" "Z" (.int (0 : Int32)) := Fld.other W32 f_49 (Or.inr (slot_ne (Or.inr (hw _ (List.mem_of_getElem? (i := 105) rfl))) (Or.inr (hw _ (List.mem_of_getElem? (i := 101) rfl))) (by decide) (t := .boolean) (t' := (.object "com/example/orderd/orderd/order/Rejection")) (by decide) (by decide)))
  have f_51 : Fld Z h42 r0 "com/example/orderd/orderd/provider/Notice" "badRequest" "Z" (.int (0 : Int32)) := Fld.other W42 f_50 (Or.inr (slot_ne (Or.inr (hw _ (List.mem_of_getElem? (i := 105) rfl))) (Or.inr (hw _ (List.mem_of_getElem? (i := 103) rfl))) (by decide) (t := .boolean) (t' := (.object "java/lang/String")) (by decide) (by decide)))
  have f_52 : Exa Z h42 r0 "com/example/orderd/orderd/provider/Notice" := Exa.wr W42 f_41
  obtain ⟨T53, h53, X53, e53, W53, st53⟩ := putFN X42 hx hZ hown (hw _ (List.mem_of_getElem? (i := 104) rfl)) Via.refl e42 f_51 f_52 (Or.inr ⟨(hw _ (List.mem_of_getElem? (i := 105) rfl)), rfl, hnm⟩) (hw _ (List.mem_of_getElem? (i := 87) rfl)) (ty := .boolean) (v' := (.int (1 : Int32))) (by decide) rfl (by decide) (g := (mkF m 40 #[.val (.ref r0), .val .null, .val (.int (0 : Int32)), .val .null, .val (.ref r4), .val .null, .val .null, .val (.int (1 : Int32))] [(.int (1 : Int32)), (.ref r0)])) rfl rfl (hb hby own_d15_40)
  refine Good.back st53 ?_
  have f_54 : Fld Z h53 r0 "com/example/orderd/orderd/provider/Notice" "badRequest" "Z" (.int (1 : Int32)) := Fld.same W53 f_51
  have N53 := Fr.snoc X53 N42 g0
  have Z55 : n0 ≤ h53.size := Nat.le_trans Z44 (Keep.of_wr W53).1
  have K56 : Keep h0 h53 [r0] := K45.wr W53 (Or.inl (List.mem_of_getElem? (i := 0) rfl))
  show Good p e below _ (T53.setTop (mkF m 43 #[.val (.ref r0), .val .null, .val (.int (0 : Int32)), .val .null, .val (.ref r4), .val .null, .val .null, .val (.int (1 : Int32))] []))
  obtain ⟨fs57, hr57, hrun57, hended57, hW57, hsame57⟩ := X53.leave (v := none) (fun _ => rfl)
  refine Good.done (X53.returnOut hx Bd.returns (hb hby own_d15_43) hr57) hrun57 hended57 ⟨_, _, rfl, ?_, ⟨_, rfl⟩, hW57, hsame57.mono (by decide) (by decide)⟩
  show Q15_10 Z r0 r4 h0 n0 _ T53.heap _
  rw [e53]
  have f_58 : Fld Z h8 r0 "com/example/orderd/orderd/provider/Notice" "order" "Lcom/example/orderd/orderd/order/Order;" .null := Fld.other W8 f_3 (Or.inr (slot_ne (Or.inr (hw _ (List.mem_of_getElem? (i := 93) rfl))) (Or.inr (hw _ (List.mem_of_getElem? (i := 95) rfl))) (by decide) (t := (.object "com/example/orderd/orderd/order/Order")) (t' := .boolean) (by decide) (by decide)))
  have f_59 : Fld Z h15 r0 "com/example/orderd/orderd/provider/Notice" "order" "Lcom/example/orderd/orderd/order/Order;" .null := Fld.other W15 f_58 (Or.inr (slot_ne (Or.inr (hw _ (List.mem_of_getElem? (i := 93) rfl))) (Or.inr (hw _ (List.mem_of_getElem? (i := 97) rfl))) (by decide) (t := (.object "com/example/orderd/orderd/order/Order")) (t' := (.object "java/lang/String")) (by decide) (by decide)))
  have f_60 : Fld Z h23 r0 "com/example/orderd/orderd/provider/Notice" "order" "Lcom/example/orderd/orderd/order/Order;" .null := Fld.other W23 f_59 (Or.inr (slot_ne (Or.inr (hw _ (List.mem_of_getElem? (i := 93) rfl))) (Or.inr (hw _ (List.mem_of_getElem? (i := 99) rfl))) (by decide) (t := (.object "com/example/orderd/orderd/order/Order")) (t' := (.object "com/example/orderd/orderd/provider/Reply")) (by decide) (by decide)))
  have f_61 : Fld Z h32 r0 "com/example/orderd/orderd/provider/Notice" "order" "Lcom/example/orderd/orderd/order/Order;" .null := Fld.other W32 f_60 (Or.inr (slot_ne (Or.inr (hw _ (List.mem_of_getElem? (i := 93) rfl))) (Or.inr (hw _ (List.mem_of_getElem? (i := 101) rfl))) (by decide) (t := (.object "com/example/orderd/orderd/order/Order")) (t' := (.object "com/example/orderd/orderd/order/Rejection")) (by decide) (by decide)))
  have f_62 : Fld Z h42 r0 "com/example/orderd/orderd/provider/Notice" "order" "Lcom/example/orderd/orderd/order/Order;" .null := Fld.other W42 f_61 (Or.inr (slot_ne (Or.inr (hw _ (List.mem_of_getElem? (i := 93) rfl))) (Or.inr (hw _ (List.mem_of_getElem? (i := 103) rfl))) (by decide) (t := (.object "com/example/orderd/orderd/order/Order")) (t' := (.object "java/lang/String")) (by decide) (by decide)))
  have f_63 : Fld Z h53 r0 "com/example/orderd/orderd/provider/Notice" "order" "Lcom/example/orderd/orderd/order/Order;" .null := Fld.other W53 f_62 (Or.inr (slot_ne (Or.inr (hw _ (List.mem_of_getElem? (i := 93) rfl))) (Or.inr (hw _ (List.mem_of_getElem? (i := 105) rfl))) (by decide) (t := (.object "com/example/orderd/orderd/order/Order")) (t' := .boolean) (by decide) (by decide)))
  have f_64 : Fld Z h15 r0 "com/example/orderd/orderd/provider/Notice" "refund" "Z" (.int (0 : Int32)) := Fld.other W15 f_9 (Or.inr (slot_ne (Or.inr (hw _ (List.mem_of_getElem? (i := 95) rfl))) (Or.inr (hw _ (List.mem_of_getElem? (i := 97) rfl))) (by decide) (t := .boolean) (t' := (.object "java/lang/String")) (by decide) (by decide)))
  have f_65 : Fld Z h23 r0 "com/example/orderd/orderd/provider/Notice" "refund" "Z" (.int (0 : Int32)) := Fld.other W23 f_64 (Or.inr (slot_ne (Or.inr (hw _ (List.mem_of_getElem? (i := 95) rfl))) (Or.inr (hw _ (List.mem_of_getElem? (i := 99) rfl))) (by decide) (t := .boolean) (t' := (.object "com/example/orderd/orderd/provider/Reply")) (by decide) (by decide)))
  have f_66 : Fld Z h32 r0 "com/example/orderd/orderd/provider/Notice" "refund" "Z" (.int (0 : Int32)) := Fld.other W32 f_65 (Or.inr (slot_ne (Or.inr (hw _ (List.mem_of_getElem? (i := 95) rfl))) (Or.inr (hw _ (List.mem_of_getElem? (i := 101) rfl))) (by decide) (t := .boolean) (t' := (.object "com/example/orderd/orderd/order/Rejection")) (by decide) (by decide)))
  have f_67 : Fld Z h42 r0 "com/example/orderd/orderd/provider/Notice" "refund" "Z" (.int (0 : Int32)) := Fld.other W42 f_66 (Or.inr (slot_ne (Or.inr (hw _ (List.mem_of_getElem? (i := 95) rfl))) (Or.inr (hw _ (List.mem_of_getElem? (i := 103) rfl))) (by decide) (t := .boolean) (t' := (.object "java/lang/String")) (by decide) (by decide)))
  have f_68 : Fld Z h53 r0 "com/example/orderd/orderd/provider/Notice" "refund" "Z" (.int (0 : Int32)) := Fld.other W53 f_67 (Or.inr (slot_ne (Or.inr (hw _ (List.mem_of_getElem? (i := 95) rfl))) (Or.inr (hw _ (List.mem_of_getElem? (i := 105) rfl))) (by decide) (t := .boolean) (t' := .boolean) (by decide) (by decide)))
  have f_69 : Fld Z h23 r0 "com/example/orderd/orderd/provider/Notice" "sign" "Ljava/lang/String;" .null := Fld.other W23 f_16 (Or.inr (slot_ne (Or.inr (hw _ (List.mem_of_getElem? (i := 97) rfl))) (Or.inr (hw _ (List.mem_of_getElem? (i := 99) rfl))) (by decide) (t := (.object "java/lang/String")) (t' := (.object "com/example/orderd/orderd/provider/Reply")) (by decide) (by decide)))
  have f_70 : Fld Z h32 r0 "com/example/orderd/orderd/provider/Notice" "sign" "Ljava/lang/String;" .null := Fld.other W32 f_69 (Or.inr (slot_ne (Or.inr (hw _ (List.mem_of_getElem? (i := 97) rfl))) (Or.inr (hw _ (List.mem_of_getElem? (i := 101) rfl))) (by decide) (t := (.object "java/lang/String")) (t' := (.object "com/example/orderd/orderd/order/Rejection")) (by decide) (by decide)))
  have f_71 : Fld Z h42 r0 "com/example/orderd/orderd/provider/Notice" "sign" "Ljava/lang/String;" .null := Fld.other W42 f_70 (Or.inr (slot_ne (Or.inr (hw _ (List.mem_of_getElem? (i := 97) rfl))) (Or.inr (hw _ (List.mem_of_getElem? (i := 103) rfl))) (by decide) (t := (.object "java/lang/String")) (t' := (.object "java/lang/String")) (by decide) (by decide)))
  have f_72 : Fld Z h53 r0 "com/example/orderd/orderd/provider/Notice" "sign" "Ljava/lang/String;" .null := Fld.other W53 f_71 (Or.inr (slot_ne (Or.inr (hw _ (List.mem_of_getElem? (i := 97) rfl))) (Or.inr (hw _ (List.mem_of_getElem? (i := 105) rfl))) (by decide) (t := (.object "java/lang/String")) (t' := .boolean) (by decide) (by decide)))
  have f_73 : Fld Z h32 r0 "com/example/orderd/orderd/provider/Notice" "refusal" "Lcom/example/orderd/orderd/provider/Reply;" (.ref r4) := Fld.other W32 f_24 (Or.inr (slot_ne (Or.inr (hw _ (List.mem_of_getElem? (i := 99) rfl))) (Or.inr (hw _ (List.mem_of_getElem? (i := 101) rfl))) (by decide) (t := (.object "com/example/orderd/orderd/provider/Reply")) (t' := (.object "com/example/orderd/orderd/order/Rejection")) (by decide) (by decide)))
  have f_74 : Fld Z h42 r0 "com/example/orderd/orderd/provider/Notice" "refusal" "Lcom/example/orderd/orderd/provider/Reply;" (.ref r4) := Fld.other W42 f_73 (Or.inr (slot_ne (Or.inr (hw _ (List.mem_of_getElem? (i := 99) rfl))) (Or.inr (hw _ (List.mem_of_getElem? (i := 103) rfl))) (by decide) (t := (.object "com/example/orderd/orderd/provider/Reply")) (t' := (.object "java/lang/String")) (by decide) (by decide)))
  have f_75 : Fld Z h53 r0 "com/example/orderd/orderd/provider/Notice" "refusal" "Lcom/example/orderd/orderd/provider/Reply;" (.ref r4) := Fld.other W53 f_74 (Or.inr (slot_ne (Or.inr (hw _ (List.mem_of_getElem? (i := 99) rfl))) (Or.inr (hw _ (List.mem_of_getElem? (i := 105) rfl))) (by decide) (t := (.object "com/example/orderd/orderd/provider/Reply")) (t' := .boolean) (by decide) (by decide)))
  have f_76 : Fld Z h42 r0 "com/example/orderd/orderd/provider/Notice" "rejection" "Lcom/example/orderd/orderd/order/Rejection;" .null := Fld.other W42 f_33 (Or.inr (slot_ne (Or.inr (hw _ (List.mem_of_getElem? (i := 101) rfl))) (Or.inr (hw _ (List.mem_of_getElem? (i := 103) rfl))) (by decide) (t := (.object "com/example/orderd/orderd/order/Rejection")) (t' := (.object "java/lang/String")) (by decide) (by decide)))
  have f_77 : Fld Z h53 r0 "com/example/orderd/orderd/provider/Notice" "rejection" "Lcom/example/orderd/orderd/order/Rejection;" .null := Fld.other W53 f_76 (Or.inr (slot_ne (Or.inr (hw _ (List.mem_of_getElem? (i := 101) rfl))) (Or.inr (hw _ (List.mem_of_getElem? (i := 105) rfl))) (by decide) (t := (.object "com/example/orderd/orderd/order/Rejection")) (t' := .boolean) (by decide) (by decide)))
  have f_78 : Fld Z h53 r0 "com/example/orderd/orderd/provider/Notice" "reason" "Ljava/lang/String;" .null := Fld.other W53 f_43 (Or.inr (slot_ne (Or.inr (hw _ (List.mem_of_getElem? (i := 103) rfl))) (Or.inr (hw _ (List.mem_of_getElem? (i := 105) rfl))) (by decide) (t := (.object "java/lang/String")) (t' := .boolean) (by decide) (by decide)))
  exact ⟨rfl, N53, K56, f_63, f_68, f_72, f_75, f_77, f_78, f_54⟩
theorem own_ef_14_10 (m : MethodId) (x0 : Addr) : entryFrame m #[(.ref x0), .null] 2 = mkF m 0 #[.val (.ref x0), .val .null] [] := by first | (simp [entryFrame, mkF, argsToLocals, Value.category]; done) | rfl
def Q14_10 (Z : State) (r0 : Addr) (h0 : Heap) (n0 : Nat) (v : Option Value) (h : Heap) (L : List Loc) : Prop := ∃ (nr : Addr), v = some (.ref nr) ∧ Fr n0 L ∧ Keep h0 h [] ∧ h0.size ≤ nr ∧ Exa Z h nr "com/example/orderd/orderd/provider/Notice" ∧ Fld Z h nr "com/example/orderd/orderd/provider/Notice" "order" "Lcom/example/orderd/orderd/order/Order;" .null ∧ Fld Z h nr "com/example/orderd/orderd/provider/Notice" "refund" "Z" (.int (0 : Int32)) ∧ Fld Z h nr "com/example/orderd/orderd/provider/Notice" "sign" "Ljava/lang/String;" .null ∧ Fld Z h nr "com/example/orderd/orderd/provider/Notice" "refusal" "Lcom/example/orderd/orderd/provider/Reply;" (.ref r0) ∧ Fld Z h nr "com/example/orderd/orderd/provider/Notice" "rejection" "Lcom/example/orderd/orderd/order/Rejection;" .null ∧ Fld Z h nr "com/example/orderd/orderd/provider/Notice" "reason" "Ljava/lang/String;" .null ∧ Fld Z h nr "com/example/orderd/orderd/provider/Notice" "badRequest" "Z" (.int (1 : Int32))
set_option maxRecDepth 65536 in
set_option maxHeartbeats 40000000 in
theorem rm14_10 (l : Launch) (Z : State) (a0 : Array Value) (hw : ∀ d ∈ tables_1, d.before a0 Z = true) (ws : List Jvm.Cond) (r0 : Addr) (h0 : Heap) (n0 : Nat) (Z0 : n0 ≤ h0.size)  :
    MetFree l (⟨"com/example/orderd/orderd/provider/Notice", "badRequest", "(Lcom/example/orderd/orderd/provider/Reply;Ljava/lang/String;)Lcom/example/orderd/orderd/provider/Notice;"⟩ : MethodName) (head1 (Jvm.Cond.code (⟨"com/example/orderd/orderd/provider/Notice", "badRequest", "(Lcom/example/orderd/orderd/provider/Reply;Ljava/lang/String;)Lcom/example/orderd/orderd/provider/Notice;"⟩ : MethodName) prog_26_method_5_code 2 (some (.object "com/example/orderd/orderd/provider/Notice")) :: ws) ({ frames := 2, cells := 1, slots := 7, locals := 32 } : Room)) (fun a U => a = #[(.ref r0), .null] ∧ Z.Warmed39 U.vm ∧ U.heap = h0) (fun _ _ _ _ _ => True) (fun _ U o U' => ∃ v L, o = .returned v ∧ Q14_10 Z r0 h0 n0 v U'.heap L ∧ FrameEnd U o U' L ({ frames := 2, cells := 1, slots := 7, locals := 32 } : Room).cells ({ frames := 2, cells := 1, slots := 7, locals := 32 } : Room).slots) := by
  refine MetFree.of_bodySF (plainFor_of_name own_pn4) hisR ?_
  intro p e s m args below meth c s₁ Bd hml0 hP hK
  obtain ⟨rfl, hZ, hh⟩ := hP
  have hx := Bd.exec
  have hby := Bd.bytes
  have hml : c.maxLocals = 2 := hml0
  have hown : s.vm.findClass "com/example/orderd/orderd/provider/Notice" = some m.cls := findClass_of_methodNamed Bd.named
  have hnm := (name_of_methodNamed Bd.named Bd.method).1
  have X0 : Stand p l e ({ frames := 2, cells := 1, slots := 7, locals := 32 } : Room) s m #[(.ref r0), .null] below meth c s₁ [] 0 0 := Stand.of_body Bd
  have e0 : s₁.heap = h0 := by rw [← hh, Bd.state]; rfl
  have N0 := Fr.nil n0
  have KR : Keep h0 h0 [] := Keep.refl h0 _
  show Good p e below (fun o U' => ∃ v L, o = .returned v ∧ Q14_10 Z r0 h0 n0 v U'.heap L ∧ FrameEnd s o U' L ({ frames := 2, cells := 1, slots := 7, locals := 32 } : Room).cells ({ frames := 2, cells := 1, slots := 7, locals := 32 } : Room).slots) _
  refine Good.back (S' := s₁.setTop (mkF m 0 #[.val (.ref r0), .val .null] [])) (fun t k => castTop (own_ef_14_10 m r0) k) ?_
  show Good p e below _ (s₁.setTop (mkF m 0 #[.val (.ref r0), .val .null] []))
  obtain ⟨T1, h1, X1, e1, E1, A1, D1, -, st1⟩ := newO X0 hx hZ hown (hw _ (List.mem_of_getElem? (i := 86) rfl)) (hw _ (List.mem_of_getElem? (i := 87) rfl)) (hw _ (List.mem_of_getElem? (i := 84) rfl)) e0 (g := (mkF m 0 #[.val (.ref r0), .val .null] [])) rfl (hb hby own_d14_0) (by decide) (by decide)
  obtain ⟨b1, g1⟩ : ∃ z, z = h0.size := ⟨_, rfl⟩
  rw [← g1] at A1 D1 st1
  refine Good.back st1 ?_
  have g_b1 : n0 ≤ b1 := Nat.le_trans Z0 (Nat.le_of_eq g1.symm)
  have sz_b1 : h0.size ≤ b1 := Nat.le_trans KR.1 (Nat.le_of_eq g1.symm)
  have Z2 : n0 ≤ h1.size := Nat.le_trans Z0 E1.1
  have K3 : Keep h0 h1 [] := KR.ext E1
  have f_4 : Exa Z h1 b1 "com/example/orderd/orderd/provider/Notice" := A1
  have f_5 : Fld Z h1 b1 "com/example/orderd/orderd/provider/Notice" "order" "Lcom/example/orderd/orderd/order/Order;" .null := D1 (Or.inr (hw _ (List.mem_of_getElem? (i := 93) rfl))) (ty := (.object "com/example/orderd/orderd/order/Order")) (by decide)
  have f_6 : Fld Z h1 b1 "com/example/orderd/orderd/provider/Notice" "refund" "Z" (.int (0 : Int32)) := D1 (Or.inr (hw _ (List.mem_of_getElem? (i := 95) rfl))) (ty := .boolean) (by decide)
  have f_7 : Fld Z h1 b1 "com/example/orderd/orderd/provider/Notice" "sign" "Ljava/lang/String;" .null := D1 (Or.inr (hw _ (List.mem_of_getElem? (i := 97) rfl))) (ty := (.object "java/lang/String")) (by decide)
  have f_8 : Fld Z h1 b1 "com/example/orderd/orderd/provider/Notice" "refusal" "Lcom/example/orderd/orderd/provider/Reply;" .null := D1 (Or.inr (hw _ (List.mem_of_getElem? (i := 99) rfl))) (ty := (.object "com/example/orderd/orderd/provider/Reply")) (by decide)
  have f_9 : Fld Z h1 b1 "com/example/orderd/orderd/provider/Notice" "rejection" "Lcom/example/orderd/orderd/order/Rejection;" .null := D1 (Or.inr (hw _ (List.mem_of_getElem? (i := 101) rfl))) (ty := (.object "com/example/orderd/orderd/order/Rejection")) (by decide)
  have f_10 : Fld Z h1 b1 "com/example/orderd/orderd/provider/Notice" "reason" "Ljava/lang/String;" .null := D1 (Or.inr (hw _ (List.mem_of_getElem? (i := 103) rfl))) (ty := (.object "java/lang/String")) (by decide)
  have f_11 : Fld Z h1 b1 "com/example/orderd/orderd/provider/Notice" "badRequest" "Z" (.int (0 : Int32)) := D1 (Or.inr (hw _ (List.mem_of_getElem? (i := 105) rfl))) (ty := .boolean) (by decide)
  show Good p e below _ (T1.setTop (mkF m 3 #[.val (.ref r0), .val .null] [(.ref b1)]))
  refine Good.back (fun _ k => XS.dup X1.here hx rfl (hb hby own_d14_3) rfl rfl k) ?_
  show Good p e below _ (T1.setTop (mkF m 4 #[.val (.ref r0), .val .null] [(.ref b1), (.ref b1)]))
  refine Good.back (fun _ k => XS.aconstNull X1.here hx rfl (hb hby own_d14_4) k) ?_
  show Good p e below _ (T1.setTop (mkF m 5 #[.val (.ref r0), .val .null] [.null, (.ref b1), (.ref b1)]))
  refine Good.back (fun _ k => XS.iconst X1.here hx rfl (hb hby own_d14_5) k) ?_
  show Good p e below _ (T1.setTop (mkF m 6 #[.val (.ref r0), .val .null] [(.int (0 : Int32)), .null, (.ref b1), (.ref b1)]))
  refine Good.back (fun _ k => XS.aconstNull X1.here hx rfl (hb hby own_d14_6) k) ?_
  show Good p e below _ (T1.setTop (mkF m 7 #[.val (.ref r0), .val .null] [.null, (.int (0 : Int32)), .null, (.ref b1), (.ref b1)]))
  refine Good.back (fun _ k => XS.aloadN X1.here hx rfl (hb hby own_d14_7) rfl rfl k) ?_
  show Good p e below _ (T1.setTop (mkF m 8 #[.val (.ref r0), .val .null] [(.ref r0), .null, (.int (0 : Int32)), .null, (.ref b1), (.ref b1)]))
  refine Good.back (fun _ k => XS.aconstNull X1.here hx rfl (hb hby own_d14_8) k) ?_
  show Good p e below _ (T1.setTop (mkF m 9 #[.val (.ref r0), .val .null] [.null, (.ref r0), .null, (.int (0 : Int32)), .null, (.ref b1), (.ref b1)]))
  refine Good.back (fun _ k => XS.aloadN X1.here hx rfl (hb hby own_d14_9) rfl rfl k) ?_
  show Good p e below _ (T1.setTop (mkF m 10 #[.val (.ref r0), .val .null] [.null, .null, (.ref r0), .null, (.int (0 : Int32)), .null, (.ref b1), (.ref b1)]))
  refine Good.back (fun _ k => XS.iconst X1.here hx rfl (hb hby own_d14_10) k) ?_
  show Good p e below _ (T1.setTop (mkF m 11 #[.val (.ref r0), .val .null] [(.int (1 : Int32)), .null, .null, (.ref r0), .null, (.int (0 : Int32)), .null, (.ref b1), (.ref b1)]))
  obtain ⟨_, _, ⟨T12, L12, k12, n12⟩, -, X12, ⟨Lc12, hQ12, l12, y12, z12⟩, st12⟩ := X1.specialBack hx (y := (⟨"com/example/orderd/orderd/provider/Notice", "<init>", "(Lcom/example/orderd/orderd/order/Order;ZLjava/lang/String;Lcom/example/orderd/orderd/provider/Reply;Lcom/example/orderd/orderd/order/Rejection;Ljava/lang/String;Z)V"⟩ : MethodName)) rfl hown (mvT hZ (hw _ (List.mem_of_getElem? (i := 88) rfl))) (mvT hZ (hw _ (List.mem_of_getElem? (i := 89) rfl))) (mvT hZ (hw _ (List.mem_of_getElem? (i := 90) rfl))) (by decide) (backOf (W := 1) (rm15_10 l Z a0 hw [] b1 r0  h1 n0 Z2 f_4 g_b1 f_5 f_6 f_7 f_8 f_9 f_10 f_11) hZ (hw _ (List.mem_of_getElem? (i := 90) rfl)) (hw _ (List.mem_of_getElem? (i := 84) rfl)) (by decide) (by decide)) (g := (mkF m 11 #[.val (.ref r0), .val .null] [(.int (1 : Int32)), .null, .null, (.ref r0), .null, (.int (0 : Int32)), .null, (.ref b1), (.ref b1)])) rfl (by rw [hml]; rfl) (Steps.refl _) (a := b1) (argsL := [.null, (.int (0 : Int32)), .null, (.ref r0), .null, .null, (.int (1 : Int32))]) (rest := [(.ref b1)]) (lenOf own_pd257 rfl) rfl (by show 2 * 0 + _ ≤ _; exact Nat.le_of_eq rfl) (hb hby own_d14_11) (fun _ _ => ⟨rfl, e1, (by decide : 1 + 0 ≤ _), (by decide : 7 + 0 ≤ _)⟩)
  dsimp only [Pt.U, Pt.locs, Pt.cells, Pt.slots] at X12 l12 y12 z12 st12 hQ12
  subst l12 y12 z12
  obtain ⟨rfl, N12q, Kq12, o12_0, o12_1, o12_2, o12_3, o12_4, o12_5, o12_6⟩ := hQ12
  have N12 := Fr.app N0 N12q
  have Z13 : n0 ≤ T12.heap.size := Nat.le_trans Z2 Kq12.1
  have K14 : Keep h0 T12.heap [] := K3.trans Kq12 (allS (Or.inr sz_b1) all0)
  refine Good.back (fun _ k => st12.trans k) ?_
  show Good p e below _ (T12.setTop (mkF m 14 #[.val (.ref r0), .val .null] [(.ref b1)]))
  obtain ⟨fs15, hr15, hrun15, hended15, hW15, hsame15⟩ := X12.leave (v := some (.ref b1)) (fun h => by rw [Bd.returns] at h; cases h)
  refine Good.done (retOut X12 hx Bd.returns rfl (Or.inr (Or.inr (Or.inr (Or.inr ⟨rfl, rfl, rfl⟩)))) (hb hby own_d14_14) hr15) hrun15 hended15 ⟨_, _, rfl, ?_, ⟨_, rfl⟩, hW15, hsame15.mono (by decide) (by decide)⟩
  show Q14_10 Z r0 h0 n0 _ T12.heap _
  have f_16 : Exa Z T12.heap b1 "com/example/orderd/orderd/provider/Notice" := Exa.keep f_4 Kq12
  exact ⟨_, rfl, N12, K14, sz_b1, f_16, o12_0, o12_1, o12_2, o12_3, o12_4, o12_5, o12_6⟩
theorem own_ef_15_11 (m : MethodId) (x0 : Addr) (x2 : Int32) (x4 : Addr) (x6 : Addr) (x7 : Int32) : entryFrame m #[(.ref x0), .null, (.int x2), .null, (.ref x4), .null, (.ref x6), (.int x7)] 8 = mkF m 0 #[.val (.ref x0), .val .null, .val (.int x2), .val .null, .val (.ref x4), .val .null, .val (.ref x6), .val (.int x7)] [] := by first | (simp [entryFrame, mkF, argsToLocals, Value.category]; done) | rfl
def Q15_11 (Z : State) (r0 : Addr) (r4 : Addr) (r6 : Addr) (h0 : Heap) (n0 : Nat) (v : Option Value) (h : Heap) (L : List Loc) : Prop := v = none ∧ Fr n0 L ∧ Keep h0 h [r0] ∧ Fld Z h r0 "com/example/orderd/orderd/provider/Notice" "order" "Lcom/example/orderd/orderd/order/Order;" .null ∧ Fld Z h r0 "com/example/orderd/orderd/provider/Notice" "refund" "Z" (.int (0 : Int32)) ∧ Fld Z h r0 "com/example/orderd/orderd/provider/Notice" "sign" "Ljava/lang/String;" .null ∧ Fld Z h r0 "com/example/orderd/orderd/provider/Notice" "refusal" "Lcom/example/orderd/orderd/provider/Reply;" (.ref r4) ∧ Fld Z h r0 "com/example/orderd/orderd/provider/Notice" "rejection" "Lcom/example/orderd/orderd/order/Rejection;" .null ∧ Fld Z h r0 "com/example/orderd/orderd/provider/Notice" "reason" "Ljava/lang/String;" (.ref r6) ∧ Fld Z h r0 "com/example/orderd/orderd/provider/Notice" "badRequest" "Z" (.int (1 : Int32))
set_option maxRecDepth 65536 in
set_option maxHeartbeats 40000000 in
theorem rm15_11 (l : Launch) (Z : State) (a0 : Array Value) (hw : ∀ d ∈ tables_1, d.before a0 Z = true) (ws : List Jvm.Cond) (r0 : Addr) (r4 : Addr) (r6 : Addr) (h0 : Heap) (n0 : Nat) (Z0 : n0 ≤ h0.size) (E0 : Exa Z h0 r0 "com/example/orderd/orderd/provider/Notice") (g0 : n0 ≤ r0) (F_order : Fld Z h0 r0 "com/example/orderd/orderd/provider/Notice" "order" "Lcom/example/orderd/orderd/order/Order;" .null) (F_refund : Fld Z h0 r0 "com/example/orderd/orderd/provider/Notice" "refund" "Z" (.int (0 : Int32))) (F_sign : Fld Z h0 r0 "com/example/orderd/orderd/provider/Notice" "sign" "Ljava/lang/String;" .null) (F_refusal : Fld Z h0 r0 "com/example/orderd/orderd/provider/Notice" "refusal" "Lcom/example/orderd/orderd/provider/Reply;" .null) (F_rejection : Fld Z h0 r0 "com/example/orderd/orderd/provider/Notice" "rejection" "Lcom/example/orderd/orderd/order/Rejection;" .null) (F_reason : Fld Z h0 r0 "com/example/orderd/orderd/provider/Notice" "reason" "Ljava/lang/String;" .null) (F_badRequest : Fld Z h0 r0 "com/example/orderd/orderd/provider/Notice" "badRequest" "Z" (.int (0 : Int32))) :
    MetFree l (⟨"com/example/orderd/orderd/provider/Notice", "<init>", "(Lcom/example/orderd/orderd/order/Order;ZLjava/lang/String;Lcom/example/orderd/orderd/provider/Reply;Lcom/example/orderd/orderd/order/Rejection;Ljava/lang/String;Z)V"⟩ : MethodName) (head1 (Jvm.Cond.code (⟨"com/example/orderd/orderd/provider/Notice", "<init>", "(Lcom/example/orderd/orderd/order/Order;ZLjava/lang/String;Lcom/example/orderd/orderd/provider/Reply;Lcom/example/orderd/orderd/order/Rejection;Ljava/lang/String;Z)V"⟩ : MethodName) prog_26_method_1_code 8 none :: ws) ({ frames := 1, cells := 0, slots := 0, locals := 12 } : Room)) (fun a U => a = #[(.ref r0), .null, (.int (0 : Int32)), .null, (.ref r4), .null, (.ref r6), (.int (1 : Int32))] ∧ Z.Warmed39 U.vm ∧ U.heap = h0) (fun _ _ _ _ _ => True) (fun _ U o U' => ∃ v L, o = .returned v ∧ Q15_11 Z r0 r4 r6 h0 n0 v U'.heap L ∧ FrameEnd U o U' L ({ frames := 1, cells := 0, slots := 0, locals := 12 } : Room).cells ({ frames := 1, cells := 0, slots := 0, locals := 12 } : Room).slots) := by
  refine MetFree.of_bodySF (plainFor_of_name own_pn4) hisR ?_
  intro p e s m args below meth c s₁ Bd hml0 hP hK
  obtain ⟨rfl, hZ, hh⟩ := hP
  have hx := Bd.exec
  have hby := Bd.bytes
  have hml : c.maxLocals = 8 := hml0
  have hown : s.vm.findClass "com/example/orderd/orderd/provider/Notice" = some m.cls := findClass_of_methodNamed Bd.named
  have hnm := (name_of_methodNamed Bd.named Bd.method).1
  have X0 : Stand p l e ({ frames := 1, cells := 0, slots := 0, locals := 12 } : Room) s m #[(.ref r0), .null, (.int (0 : Int32)), .null, (.ref r4), .null, (.ref r6), (.int (1 : Int32))] below meth c s₁ [] 0 0 := Stand.of_body Bd
  have e0 : s₁.heap = h0 := by rw [← hh, Bd.state]; rfl
  have N0 := Fr.nil n0
  have KR : Keep h0 h0 [r0] := Keep.refl h0 _
  show Good p e below (fun o U' => ∃ v L, o = .returned v ∧ Q15_11 Z r0 r4 r6 h0 n0 v U'.heap L ∧ FrameEnd s o U' L ({ frames := 1, cells := 0, slots := 0, locals := 12 } : Room).cells ({ frames := 1, cells := 0, slots := 0, locals := 12 } : Room).slots) _
  refine Good.back (S' := s₁.setTop (mkF m 0 #[.val (.ref r0), .val .null, .val (.int (0 : Int32)), .val .null, .val (.ref r4), .val .null, .val (.ref r6), .val (.int (1 : Int32))] [])) (fun t k => castTop (own_ef_15_11 m r0 (0 : Int32) r4 r6 (1 : Int32)) k) ?_
  show Good p e below _ (s₁.setTop (mkF m 0 #[.val (.ref r0), .val .null, .val (.int (0 : Int32)), .val .null, .val (.ref r4), .val .null, .val (.ref r6), .val (.int (1 : Int32))] []))
  refine Good.back (fun _ k => XS.aloadN X0.here hx rfl (hb hby own_d15_0) rfl rfl k) ?_
  show Good p e below _ (s₁.setTop (mkF m 1 #[.val (.ref r0), .val .null, .val (.int (0 : Int32)), .val .null, .val (.ref r4), .val .null, .val (.ref r6), .val (.int (1 : Int32))] [(.ref r0)]))
  obtain ⟨T1, X1, e1, st1⟩ := initO X0 hx hZ hown (hw _ (List.mem_of_getElem? (i := 91) rfl)) (hw _ (List.mem_of_getElem? (i := 21) rfl)) (hw _ (List.mem_of_getElem? (i := 22) rfl)) e0 (g := (mkF m 1 #[.val (.ref r0), .val .null, .val (.int (0 : Int32)), .val .null, .val (.ref r4), .val .null, .val (.ref r6), .val (.int (1 : Int32))] [(.ref r0)])) rfl (by rw [hml]; rfl) rfl (hb hby own_d15_1) (by decide) (W := 0) (by show 2 * 0 + _ ≤ _; exact Nat.le_of_eq rfl) (by decide)
  refine Good.back st1 ?_
  show Good p e below _ (T1.setTop (mkF m 4 #[.val (.ref r0), .val .null, .val (.int (0 : Int32)), .val .null, .val (.ref r4), .val .null, .val (.ref r6), .val (.int (1 : Int32))] []))
  refine Good.back (fun _ k => XS.aloadN X1.here hx rfl (hb hby own_d15_4) rfl rfl k) ?_
  show Good p e below _ (T1.setTop (mkF m 5 #[.val (.ref r0), .val .null, .val (.int (0 : Int32)), .val .null, .val (.ref r4), .val .null, .val (.ref r6), .val (.int (1 : Int32))] [(.ref r0)]))
  refine Good.back (fun _ k => XS.aloadN X1.here hx rfl (hb hby own_d15_5) rfl rfl k) ?_
  show Good p e below _ (T1.setTop (mkF m 6 #[.val (.ref r0), .val .null, .val (.int (0 : Int32)), .val .null, .val (.ref r4), .val .null, .val (.ref r6), .val (.int (1 : Int32))] [.null, (.ref r0)]))
  obtain ⟨T2, h2, X2, e2, W2, st2⟩ := putF X1 hx hZ hown (host := "") (Or.inl (hw _ (List.mem_of_getElem? (i := 92) rfl))) Via.refl e1 F_order E0 (Or.inr ⟨(hw _ (List.mem_of_getElem? (i := 93) rfl)), rfl, hnm⟩) (hw _ (List.mem_of_getElem? (i := 87) rfl)) (ty := (.object "com/example/orderd/orderd/order/Order")) (by decide) rfl rfl (g := (mkF m 6 #[.val (.ref r0), .val .null, .val (.int (0 : Int32)), .val .null, .val (.ref r4), .val .null, .val (.ref r6), .val (.int (1 : Int32))] [.null, (.ref r0)])) rfl rfl (hb hby own_d15_6)
  refine Good.back st2 ?_
  have f_3 : Fld Z h2 r0 "com/example/orderd/orderd/provider/Notice" "order" "Lcom/example/orderd/orderd/order/Order;" .null := Fld.same W2 F_order
  have N2 := Fr.snoc X2 N0 g0
  have Z4 : n0 ≤ h2.size := Nat.le_trans Z0 (Keep.of_wr W2).1
  have K5 : Keep h0 h2 [r0] := KR.wr W2 (Or.inl (List.mem_of_getElem? (i := 0) rfl))
  show Good p e below _ (T2.setTop (mkF m 9 #[.val (.ref r0), .val .null, .val (.int (0 : Int32)), .val .null, .val (.ref r4), .val .null, .val (.ref r6), .val (.int (1 : Int32))] []))
  refine Good.back (fun _ k => XS.aloadN X2.here hx rfl (hb hby own_d15_9) rfl rfl k) ?_
  show Good p e below _ (T2.setTop (mkF m 10 #[.val (.ref r0), .val .null, .val (.int (0 : Int32)), .val .null, .val (.ref r4), .val .null, .val (.ref r6), .val (.int (1 : Int32))] [(.ref r0)]))
  refine Good.back (fun _ k => XS.iloadN X2.here hx rfl (hb hby own_d15_10) rfl k) ?_
  show Good p e below _ (T2.setTop (mkF m 11 #[.val (.ref r0), .val .null, .val (.int (0 : Int32)), .val .null, .val (.ref r4), .val .null, .val (.ref r6), .val (.int (1 : Int32))] [(.int (0 : Int32)), (.ref r0)]))
  have f_6 : Fld Z h2 r0 "com/example/orderd/orderd/provider/Notice" "refund" "Z" (.int (0 : Int32)) := Fld.other W2 F_refund (Or.inr (slot_ne (Or.inr (hw _ (List.mem_of_getElem? (i := 95) rfl))) (Or.inr (hw _ (List.mem_of_getElem? (i := 93) rfl))) (by decide) (t := .boolean) (t' := (.object "com/example/orderd/orderd/order/Order")) (by decide) (by decide)))
  have f_7 : Exa Z h2 r0 "com/example/orderd/orderd/provider/Notice" := Exa.wr W2 E0
  obtain ⟨T8, h8, X8, e8, W8, st8⟩ := putFN X2 hx hZ hown (hw _ (List.mem_of_getElem? (i := 94) rfl)) Via.refl e2 f_6 f_7 (Or.inr ⟨(hw _ (List.mem_of_getElem? (i := 95) rfl)), rfl, hnm⟩) (hw _ (List.mem_of_getElem? (i := 87) rfl)) (ty := .boolean) (v' := (.int (0 : Int32))) (by decide) rfl (by decide) (g := (mkF m 11 #[.val (.ref r0), .val .null, .val (.int (0 : Int32)), .val .null, .val (.ref r4), .val .null, .val (.ref r6), .val (.int (1 : Int32))] [(.int (0 : Int32)), (.ref r0)])) rfl rfl (hb hby own_d15_11)
  refine Good.back st8 ?_
  have f_9 : Fld Z h8 r0 "com/example/orderd/orderd/provider/Notice" "refund" "Z" (.int (0 : Int32)) := Fld.same W8 f_6
  have N8 := Fr.snoc X8 N2 g0
  have Z10 : n0 ≤ h8.size := Nat.le_trans Z4 (Keep.of_wr W8).1
  have K11 : Keep h0 h8 [r0] := K5.wr W8 (Or.inl (List.mem_of_getElem? (i := 0) rfl))
  show Good p e below _ (T8.setTop (mkF m 14 #[.val (.ref r0), .val .null, .val (.int (0 : Int32)), .val .null, .val (.ref r4), .val .null, .val (.ref r6), .val (.int (1 : Int32))] []))
  refine Good.back (fun _ k => XS.aloadN X8.here hx rfl (hb hby own_d15_14) rfl rfl k) ?_
  show Good p e below _ (T8.setTop (mkF m 15 #[.val (.ref r0), .val .null, .val (.int (0 : Int32)), .val .null, .val (.ref r4), .val .null, .val (.ref r6), .val (.int (1 : Int32))] [(.ref r0)]))
  refine Good.back (fun _ k => XS.aloadN X8.here hx rfl (hb hby own_d15_15) rfl rfl k) ?_
  show Good p e below _ (T8.setTop (mkF m 16 #[.val (.ref r0), .val .null, .val (.int (0 : Int32)), .val .null, .val (.ref r4), .val .null, .val (.ref r6), .val (.int (1 : Int32))] [.null, (.ref r0)]))
  have f_12 : Fld Z h2 r0 "com/example/orderd/orderd/provider/Notice" "sign" "Ljava/lang/String;" .null := Fld.other W2 F_sign (Or.inr (slot_ne (Or.inr (hw _ (List.mem_of_getElem? (i := 97) rfl))) (Or.inr (hw _ (List.mem_of_getElem? (i := 93) rfl))) (by decide) (t := (.object "java/lang/String")) (t' := (.object "com/example/orderd/orderd/order/Order")) (by decide) (by decide)))
  have f_13 : Fld Z h8 r0 "com/example/orderd/orderd/provider/Notice" "sign" "Ljava/lang/String;" .null := Fld.other W8 f_12 (Or.inr (slot_ne (Or.inr (hw _ (List.mem_of_getElem? (i := 97) rfl))) (Or.inr (hw _ (List.mem_of_getElem? (i := 95) rfl))) (by decide) (t := (.object "java/lang/String")) (t' := .boolean) (by decide) (by decide)))
  have f_14 : Exa Z h8 r0 "com/example/orderd/orderd/provider/Notice" := Exa.wr W8 f_7
  obtain ⟨T15, h15, X15, e15, W15, st15⟩ := putF X8 hx hZ hown (host := "") (Or.inl (hw _ (List.mem_of_getElem? (i := 96) rfl))) Via.refl e8 f_13 f_14 (Or.inr ⟨(hw _ (List.mem_of_getElem? (i := 97) rfl)), rfl, hnm⟩) (hw _ (List.mem_of_getElem? (i := 87) rfl)) (ty := (.object "java/lang/String")) (by decide) rfl rfl (g := (mkF m 16 #[.val (.ref r0), .val .null, .val (.int (0 : Int32)), .val .null, .val (.ref r4), .val .null, .val (.ref r6), .val (.int (1 : Int32))] [.null, (.ref r0)])) rfl rfl (hb hby own_d15_16)
  refine Good.back st15 ?_
  have f_16 : Fld Z h15 r0 "com/example/orderd/orderd/provider/Notice" "sign" "Ljava/lang/String;" .null := Fld.same W15 f_13
  have N15 := Fr.snoc X15 N8 g0
  have Z17 : n0 ≤ h15.size := Nat.le_trans Z10 (Keep.of_wr W15).1
  have K18 : Keep h0 h15 [r0] := K11.wr W15 (Or.inl (List.mem_of_getElem? (i := 0) rfl))
  show Good p e below _ (T15.setTop (mkF m 19 #[.val (.ref r0), .val .null, .val (.int (0 : Int32)), .val .null, .val (.ref r4), .val .null, .val (.ref r6), .val (.int (1 : Int32))] []))
  refine Good.back (fun _ k => XS.aloadN X15.here hx rfl (hb hby own_d15_19) rfl rfl k) ?_
  show Good p e below _ (T15.setTop (mkF m 20 #[.val (.ref r0), .val .null, .val (.int (0 : Int32)), .val .null, .val (.ref r4), .val .null, .val (.ref r6), .val (.int (1 : Int32))] [(.ref r0)]))
  refine Good.back (fun _ k => XS.aload X15.here hx rfl (hb hby own_d15_20) rfl rfl k) ?_
  show Good p e below _ (T15.setTop (mkF m 22 #[.val (.ref r0), .val .null, .val (.int (0 : Int32)), .val .null, .val (.ref r4), .val .null, .val (.ref r6), .val (.int (1 : Int32))] [(.ref r4), (.ref r0)]))
  have f_19 : Fld Z h2 r0 "com/example/orderd/orderd/provider/Notice" "refusal" "Lcom/example/orderd/orderd/provider/Reply;" .null := Fld.other W2 F_refusal (Or.inr (slot_ne (Or.inr (hw _ (List.mem_of_getElem? (i := 99) rfl))) (Or.inr (hw _ (List.mem_of_getElem? (i := 93) rfl))) (by decide) (t := (.object "com/example/orderd/orderd/provider/Reply")) (t' := (.object "com/example/orderd/orderd/order/Order")) (by decide) (by decide)))
  have f_20 : Fld Z h8 r0 "com/example/orderd/orderd/provider/Notice" "refusal" "Lcom/example/orderd/orderd/provider/Reply;" .null := Fld.other W8 f_19 (Or.inr (slot_ne (Or.inr (hw _ (List.mem_of_getElem? (i := 99) rfl))) (Or.inr (hw _ (List.mem_of_getElem? (i := 95) rfl))) (by decide) (t := (.object "com/example/orderd/orderd/provider/Reply")) (t' := .boolean) (by decide) (by decide)))
  have f_21 : Fld Z h15 r0 "com/example/orderd/orderd/provider/Notice" "refusal" "Lcom/example/orderd/orderd/provider/Reply;" .null := Fld.other W15 f_20 (Or.inr (slot_ne (Or.inr (hw _ (List.mem_of_getElem? (i := 99) rfl))) (Or.inr (hw _ (List.mem_of_getElem? (i := 97) rfl))) (by decide) (t := (.object "com/example/orderd/orderd/provider/Reply")) (t' := (.object "java/lang/String")) (by decide) (by decide)))
  have f_22 : Exa Z h15 r0 "com/example/orderd/orderd/provider/Notice" := Exa.wr W15 f_14
  obtain ⟨T23, h23, X23, e23, W23, st23⟩ := putF X15 hx hZ hown (host := "") (Or.inl (hw _ (List.mem_of_getElem? (i := 98) rfl))) Via.refl e15 f_21 f_22 (Or.inr ⟨(hw _ (List.mem_of_getElem? (i := 99) rfl)), rfl, hnm⟩) (hw _ (List.mem_of_getElem? (i := 87) rfl)) (ty := (.object "com/example/orderd/orderd/provider/Reply")) (by decide) rfl rfl (g := (mkF m 22 #[.val (.ref r0), .val .null, .val (.int (0 : Int32)), .val .null, .val (.ref r4), .val .null, .val (.ref r6), .val (.int (1 : Int32))] [(.ref r4), (.ref r0)])) rfl rfl (hb hby own_d15_22)
  refine Good.back st23 ?_
  have f_24 : Fld Z h23 r0 "com/example/orderd/orderd/provider/Notice" "refusal" "Lcom/example/orderd/orderd/provider/Reply;" (.ref r4) := Fld.same W23 f_21
  have N23 := Fr.snoc X23 N15 g0
  have Z25 : n0 ≤ h23.size := Nat.le_trans Z17 (Keep.of_wr W23).1
  have K26 : Keep h0 h23 [r0] := K18.wr W23 (Or.inl (List.mem_of_getElem? (i := 0) rfl))
  show Good p e below _ (T23.setTop (mkF m 25 #[.val (.ref r0), .val .null, .val (.int (0 : Int32)), .val .null, .val (.ref r4), .val .null, .val (.ref r6), .val (.int (1 : Int32))] []))
  refine Good.back (fun _ k => XS.aloadN X23.here hx rfl (hb hby own_d15_25) rfl rfl k) ?_
  show Good p e below _ (T23.setTop (mkF m 26 #[.val (.ref r0), .val .null, .val (.int (0 : Int32)), .val .null, .val (.ref r4), .val .null, .val (.ref r6), .val (.int (1 : Int32))] [(.ref r0)]))
  refine Good.back (fun _ k => XS.aload X23.here hx rfl (hb hby own_d15_26) rfl rfl k) ?_
  show Good p e below _ (T23.setTop (mkF m 28 #[.val (.ref r0), .val .null, .val (.int (0 : Int32)), .val .null, .val (.ref r4), .val .null, .val (.ref r6), .val (.int (1 : Int32))] [.null, (.ref r0)]))
  have f_27 : Fld Z h2 r0 "com/example/orderd/orderd/provider/Notice" "rejection" "Lcom/example/orderd/orderd/order/Rejection;" .null := Fld.other W2 F_rejection (Or.inr (slot_ne (Or.inr (hw _ (List.mem_of_getElem? (i := 101) rfl))) (Or.inr (hw _ (List.mem_of_getElem? (i := 93) rfl))) (by decide) (t := (.object "com/example/orderd/orderd/order/Rejection")) (t' := (.object "com/example/orderd/orderd/order/Order")) (by decide) (by decide)))
  have f_28 : Fld Z h8 r0 "com/example/orderd/orderd/provider/Notice" "rejection" "Lcom/example/orderd/orderd/order/Rejection;" .null := Fld.other W8 f_27 (Or.inr (slot_ne (Or.inr (hw _ (List.mem_of_getElem? (i := 101) rfl))) (Or.inr (hw _ (List.mem_of_getElem? (i := 95) rfl))) (by decide) (t := (.object "com/example/orderd/orderd/order/Rejection")) (t' := .boolean) (by decide) (by decide)))
  have f_29 : Fld Z h15 r0 "com/example/orderd/orderd/provider/Notice" "rejection" "Lcom/example/orderd/orderd/order/Rejection;" .null := Fld.other W15 f_28 (Or.inr (slot_ne (Or.inr (hw _ (List.mem_of_getElem? (i := 101) rfl))) (Or.inr (hw _ (List.mem_of_getElem? (i := 97) rfl))) (by decide) (t := (.object "com/example/orderd/orderd/order/Rejection")) (t' := (.object "java/lang/String")) (by decide) (by decide)))
  have f_30 : Fld Z h23 r0 "com/example/orderd/orderd/provider/Notice" "rejection" "Lcom/example/orderd/orderd/order/Rejection;" .null := Fld.other W23 f_29 (Or.inr (slot_ne (Or.inr (hw _ (List.mem_of_getElem? (i := 101) rfl))) (Or.inr (hw _ (List.mem_of_getElem? (i := 99) rfl))) (by decide) (t := (.object "com/example/orderd/orderd/order/Rejection")) (t' := (.object "com/example/orderd/orderd/provider/Reply")) (by decide) (by decide)))
  have f_31 : Exa Z h23 r0 "com/example/orderd/orderd/provider/Notice" := Exa.wr W23 f_22
  obtain ⟨T32, h32, X32, e32, W32, st32⟩ := putF X23 hx hZ hown (host := "") (Or.inl (hw _ (List.mem_of_getElem? (i := 100) rfl))) Via.refl e23 f_30 f_31 (Or.inr ⟨(hw _ (List.mem_of_getElem? (i := 101) rfl)), rfl, hnm⟩) (hw _ (List.mem_of_getElem? (i := 87) rfl)) (ty := (.object "com/example/orderd/orderd/order/Rejection")) (by decide) rfl rfl (g := (mkF m 28 #[.val (.ref r0), .val .null, .val (.int (0 : Int32)), .val .null, .val (.ref r4), .val .null, .val (.ref r6), .val (.int (1 : Int32))] [.null, (.ref r0)])) rfl rfl (hb hby own_d15_28)
  refine Good.back st32 ?_
  have f_33 : Fld Z h32 r0 "com/example/orderd/orderd/provider/Notice" "rejection" "Lcom/example/orderd/orderd/order/Rejection;" .null := Fld.same W32 f_30
  have N32 := Fr.snoc X32 N23 g0
  have Z34 : n0 ≤ h32.size := Nat.le_trans Z25 (Keep.of_wr W32).1
  have K35 : Keep h0 h32 [r0] := K26.wr W32 (Or.inl (List.mem_of_getElem? (i := 0) rfl))
  show Good p e below _ (T32.setTop (mkF m 31 #[.val (.ref r0), .val .null, .val (.int (0 : Int32)), .val .null, .val (.ref r4), .val .null, .val (.ref r6), .val (.int (1 : Int32))] []))
  refine Good.back (fun _ k => XS.aloadN X32.here hx rfl (hb hby own_d15_31) rfl rfl k) ?_
  show Good p e below _ (T32.setTop (mkF m 32 #[.val (.ref r0), .val .null, .val (.int (0 : Int32)), .val .null, .val (.ref r4), .val .null, .val (.ref r6), .val (.int (1 : Int32))] [(.ref r0)]))
  refine Good.back (fun _ k => XS.aload X32.here hx rfl (hb hby own_d15_32) rfl rfl k) ?_
  show Good p e below _ (T32.setTop (mkF m 34 #[.val (.ref r0), .val .null, .val (.int (0 : Int32)), .val .null, .val (.ref r4), .val .null, .val (.ref r6), .val (.int (1 : Int32))] [(.ref r6), (.ref r0)]))
  have f_36 : Fld Z h2 r0 "com/example/orderd/orderd/provider/Notice" "reason" "Ljava/lang/String;" .null := Fld.other W2 F_reason (Or.inr (slot_ne (Or.inr (hw _ (List.mem_of_getElem? (i := 103) rfl))) (Or.inr (hw _ (List.mem_of_getElem? (i := 93) rfl))) (by decide) (t := (.object "java/lang/String")) (t' := (.object "com/example/orderd/orderd/order/Order")) (by decide) (by decide)))
  have f_37 : Fld Z h8 r0 "com/example/orderd/orderd/provider/Notice" "reason" "Ljava/lang/String;" .null := Fld.other W8 f_36 (Or.inr (slot_ne (Or.inr (hw _ (List.mem_of_getElem? (i := 103) rfl))) (Or.inr (hw _ (List.mem_of_getElem? (i := 95) rfl))) (by decide) (t := (.object "java/lang/String")) (t' := .boolean) (by decide) (by decide)))
  have f_38 : Fld Z h15 r0 "com/example/orderd/orderd/provider/Notice" "reason" "Ljava/lang/String;" .null := Fld.other W15 f_37 (Or.inr (slot_ne (Or.inr (hw _ (List.mem_of_getElem? (i := 103) rfl))) (Or.inr (hw _ (List.mem_of_getElem? (i := 97) rfl))) (by decide) (t := (.object "java/lang/String")) (t' := (.object "java/lang/String")) (by decide) (by decide)))
  have f_39 : Fld Z h23 r0 "com/example/orderd/orderd/provider/Notice" "reason" "Ljava/lang/String;" .null := Fld.other W23 f_38 (Or.inr (slot_ne (Or.inr (hw _ (List.mem_of_getElem? (i := 103) rfl))) (Or.inr (hw _ (List.mem_of_getElem? (i := 99) rfl))) (by decide) (t := (.object "java/lang/String")) (t' := (.object "com/example/orderd/orderd/provider/Reply")) (by decide) (by decide)))
  have f_40 : Fld Z h32 r0 "com/example/orderd/orderd/provider/Notice" "reason" "Ljava/lang/String;" .null := Fld.other W32 f_39 (Or.inr (slot_ne (Or.inr (hw _ (List.mem_of_getElem? (i := 103) rfl))) (Or.inr (hw _ (List.mem_of_getElem? (i := 101) rfl))) (by decide) (t := (.object "java/lang/String")) (t' := (.object "com/example/orderd/orderd/order/Rejection")) (by decide) (by decide)))
  have f_41 : Exa Z h32 r0 "com/example/orderd/orderd/provider/Notice" := Exa.wr W32 f_31
  obtain ⟨T42, h42, X42, e42, W42, st42⟩ := putF X32 hx hZ hown (host := "") (Or.inl (hw _ (List.mem_of_getElem? (i := 102) rfl))) Via.refl e32 f_40 f_41 (Or.inr ⟨(hw _ (List.mem_of_getElem? (i := 103) rfl)), rfl, hnm⟩) (hw _ (List.mem_of_getElem? (i := 87) rfl)) (ty := (.object "java/lang/String")) (by decide) rfl rfl (g := (mkF m 34 #[.val (.ref r0), .val .null, .val (.int (0 : Int32)), .val .null, .val (.ref r4), .val .null, .val (.ref r6), .val (.int (1 : Int32))] [(.ref r6), (.ref r0)])) rfl rfl (hb hby own_d15_34)
  refine Good.back st42 ?_
  have f_43 : Fld Z h42 r0 "com/example/orderd/orderd/provider/Notice" "reason" "Ljava/lang/String;" (.ref r6) := Fld.same W42 f_40
  have N42 := Fr.snoc X42 N32 g0
  have Z44 : n0 ≤ h42.size := Nat.le_trans Z34 (Keep.of_wr W42).1
  have K45 : Keep h0 h42 [r0] := K35.wr W42 (Or.inl (List.mem_of_getElem? (i := 0) rfl))
  show Good p e below _ (T42.setTop (mkF m 37 #[.val (.ref r0), .val .null, .val (.int (0 : Int32)), .val .null, .val (.ref r4), .val .null, .val (.ref r6), .val (.int (1 : Int32))] []))
  refine Good.back (fun _ k => XS.aloadN X42.here hx rfl (hb hby own_d15_37) rfl rfl k) ?_
  show Good p e below _ (T42.setTop (mkF m 38 #[.val (.ref r0), .val .null, .val (.int (0 : Int32)), .val .null, .val (.ref r4), .val .null, .val (.ref r6), .val (.int (1 : Int32))] [(.ref r0)]))
  refine Good.back (fun _ k => XS.iload X42.here hx rfl (hb hby own_d15_38) rfl k) ?_
  show Good p e below _ (T42.setTop (mkF m 40 #[.val (.ref r0), .val .null, .val (.int (0 : Int32)), .val .null, .val (.ref r4), .val .null, .val (.ref r6), .val (.int (1 : Int32))] [(.int (1 : Int32)), (.ref r0)]))
  have f_46 : Fld Z h2 r0 "com/example/orderd/orderd/provider/Notice" "badRequest" "Z" (.int (0 : Int32)) := Fld.other W2 F_badRequest (Or.inr (slot_ne (Or.inr (hw _ (List.mem_of_getElem? (i := 105) rfl))) (Or.inr (hw _ (List.mem_of_getElem? (i := 93) rfl))) (by decide) (t := .boolean) (t' := (.object "com/example/orderd/orderd/order/Order")) (by decide) (by decide)))
  have f_47 : Fld Z h8 r0 "com/example/orderd/orderd/provider/Notice" "badRequest" "Z" (.int (0 : Int32)) := Fld.other W8 f_46 (Or.inr (slot_ne (Or.inr (hw _ (List.mem_of_getElem? (i := 105) rfl))) (Or.inr (hw _ (List.mem_of_getElem? (i := 95) rfl))) (by decide) (t := .boolean) (t' := .boolean) (by decide) (by decide)))
  have f_48 : Fld Z h15 r0 "com/example/orderd/orderd/provider/Notice" "badRequest" "Z" (.int (0 : Int32)) := Fld.other W15 f_47 (Or.inr (slot_ne (Or.inr (hw _ (List.mem_of_getElem? (i := 105) rfl))) (Or.inr (hw _ (List.mem_of_getElem? (i := 97) rfl))) (by decide) (t := .boolean) (t' := (.object "java/lang/String")) (by decide) (by decide)))
  have f_49 : Fld Z h23 r0 "com/example/orderd/orderd/provider/Notice" "badRequest" "Z" (.int (0 : Int32)) := Fld.other W23 f_48 (Or.inr (slot_ne (Or.inr (hw _ (List.mem_of_getElem? (i := 105) rfl))) (Or.inr (hw _ (List.mem_of_getElem? (i := 99) rfl))) (by decide) (t := .boolean) (t' := (.object "com/example/orderd/orderd/provider/Reply")) (by decide) (by decide)))
  have f_50 : Fld Z h32 r0 "com/example/orderd/orderd/provider/Notice" "badRequest" "Z" (.int (0 : Int32)) := Fld.other W32 f_49 (Or.inr (slot_ne (Or.inr (hw _ (List.mem_of_getElem? (i := 105) rfl))) (Or.inr (hw _ (List.mem_of_getElem? (i := 101) rfl))) (by decide) (t := .boolean) (t' := (.object "com/example/orderd/orderd/order/Rejection")) (by decide) (by decide)))
  have f_51 : Fld Z h42 r0 "com/example/orderd/orderd/provider/Notice" "badRequest" "Z" (.int (0 : Int32)) := Fld.other W42 f_50 (Or.inr (slot_ne (Or.inr (hw _ (List.mem_of_getElem? (i := 105) rfl))) (Or.inr (hw _ (List.mem_of_getElem? (i := 103) rfl))) (by decide) (t := .boolean) (t' := (.object "java/lang/String")) (by decide) (by decide)))
  have f_52 : Exa Z h42 r0 "com/example/orderd/orderd/provider/Notice" := Exa.wr W42 f_41
  obtain ⟨T53, h53, X53, e53, W53, st53⟩ := putFN X42 hx hZ hown (hw _ (List.mem_of_getElem? (i := 104) rfl)) Via.refl e42 f_51 f_52 (Or.inr ⟨(hw _ (List.mem_of_getElem? (i := 105) rfl)), rfl, hnm⟩) (hw _ (List.mem_of_getElem? (i := 87) rfl)) (ty := .boolean) (v' := (.int (1 : Int32))) (by decide) rfl (by decide) (g := (mkF m 40 #[.val (.ref r0), .val .null, .val (.int (0 : Int32)), .val .null, .val (.ref r4), .val .null, .val (.ref r6), .val (.int (1 : Int32))] [(.int (1 : Int32)), (.ref r0)])) rfl rfl (hb hby own_d15_40)
  refine Good.back st53 ?_
  have f_54 : Fld Z h53 r0 "com/example/orderd/orderd/provider/Notice" "badRequest" "Z" (.int (1 : Int32)) := Fld.same W53 f_51
  have N53 := Fr.snoc X53 N42 g0
  have Z55 : n0 ≤ h53.size := Nat.le_trans Z44 (Keep.of_wr W53).1
  have K56 : Keep h0 h53 [r0] := K45.wr W53 (Or.inl (List.mem_of_getElem? (i := 0) rfl))
  show Good p e below _ (T53.setTop (mkF m 43 #[.val (.ref r0), .val .null, .val (.int (0 : Int32)), .val .null, .val (.ref r4), .val .null, .val (.ref r6), .val (.int (1 : Int32))] []))
  obtain ⟨fs57, hr57, hrun57, hended57, hW57, hsame57⟩ := X53.leave (v := none) (fun _ => rfl)
  refine Good.done (X53.returnOut hx Bd.returns (hb hby own_d15_43) hr57) hrun57 hended57 ⟨_, _, rfl, ?_, ⟨_, rfl⟩, hW57, hsame57.mono (by decide) (by decide)⟩
  show Q15_11 Z r0 r4 r6 h0 n0 _ T53.heap _
  rw [e53]
  have f_58 : Fld Z h8 r0 "com/example/orderd/orderd/provider/Notice" "order" "Lcom/example/orderd/orderd/order/Order;" .null := Fld.other W8 f_3 (Or.inr (slot_ne (Or.inr (hw _ (List.mem_of_getElem? (i := 93) rfl))) (Or.inr (hw _ (List.mem_of_getElem? (i := 95) rfl))) (by decide) (t := (.object "com/example/orderd/orderd/order/Order")) (t' := .boolean) (by decide) (by decide)))
  have f_59 : Fld Z h15 r0 "com/example/orderd/orderd/provider/Notice" "order" "Lcom/example/orderd/orderd/order/Order;" .null := Fld.other W15 f_58 (Or.inr (slot_ne (Or.inr (hw _ (List.mem_of_getElem? (i := 93) rfl))) (Or.inr (hw _ (List.mem_of_getElem? (i := 97) rfl))) (by decide) (t := (.object "com/example/orderd/orderd/order/Order")) (t' := (.object "java/lang/String")) (by decide) (by decide)))
  have f_60 : Fld Z h23 r0 "com/example/orderd/orderd/provider/Notice" "order" "Lcom/example/orderd/orderd/order/Order;" .null := Fld.other W23 f_59 (Or.inr (slot_ne (Or.inr (hw _ (List.mem_of_getElem? (i := 93) rfl))) (Or.inr (hw _ (List.mem_of_getElem? (i := 99) rfl))) (by decide) (t := (.object "com/example/orderd/orderd/order/Order")) (t' := (.object "com/example/orderd/orderd/provider/Reply")) (by decide) (by decide)))
  have f_61 : Fld Z h32 r0 "com/example/orderd/orderd/provider/Notice" "order" "Lcom/example/orderd/orderd/order/Order;" .null := Fld.other W32 f_60 (Or.inr (slot_ne (Or.inr (hw _ (List.mem_of_getElem? (i := 93) rfl))) (Or.inr (hw _ (List.mem_of_getElem? (i := 101) rfl))) (by decide) (t := (.object "com/example/orderd/orderd/order/Order")) (t' := (.object "com/example/orderd/orderd/order/Rejection")) (by decide) (by decide)))
  have f_62 : Fld Z h42 r0 "com/example/orderd/orderd/provider/Notice" "order" "Lcom/example/orderd/orderd/order/Order;" .null := Fld.other W42 f_61 (Or.inr (slot_ne (Or.inr (hw _ (List.mem_of_getElem? (i := 93) rfl))) (Or.inr (hw _ (List.mem_of_getElem? (i := 103) rfl))) (by decide) (t := (.object "com/example/orderd/orderd/order/Order")) (t' := (.object "java/lang/String")) (by decide) (by decide)))
  have f_63 : Fld Z h53 r0 "com/example/orderd/orderd/provider/Notice" "order" "Lcom/example/orderd/orderd/order/Order;" .null := Fld.other W53 f_62 (Or.inr (slot_ne (Or.inr (hw _ (List.mem_of_getElem? (i := 93) rfl))) (Or.inr (hw _ (List.mem_of_getElem? (i := 105) rfl))) (by decide) (t := (.object "com/example/orderd/orderd/order/Order")) (t' := .boolean) (by decide) (by decide)))
  have f_64 : Fld Z h15 r0 "com/example/orderd/orderd/provider/Notice" "refund" "Z" (.int (0 : Int32)) := Fld.other W15 f_9 (Or.inr (slot_ne (Or.inr (hw _ (List.mem_of_getElem? (i := 95) rfl))) (Or.inr (hw _ (List.mem_of_getElem? (i := 97) rfl))) (by decide) (t := .boolean) (t' := (.object "java/lang/String")) (by decide) (by decide)))
  have f_65 : Fld Z h23 r0 "com/example/orderd/orderd/provider/Notice" "refund" "Z" (.int (0 : Int32)) := Fld.other W23 f_64 (Or.inr (slot_ne (Or.inr (hw _ (List.mem_of_getElem? (i := 95) rfl))) (Or.inr (hw _ (List.mem_of_getElem? (i := 99) rfl))) (by decide) (t := .boolean) (t' := (.object "com/example/orderd/orderd/provider/Reply")) (by decide) (by decide)))
  have f_66 : Fld Z h32 r0 "com/example/orderd/orderd/provider/Notice" "refund" "Z" (.int (0 : Int32)) := Fld.other W32 f_65 (Or.inr (slot_ne (Or.inr (hw _ (List.mem_of_getElem? (i := 95) rfl))) (Or.inr (hw _ (List.mem_of_getElem? (i := 101) rfl))) (by decide) (t := .boolean) (t' := (.object "com/example/orderd/orderd/order/Rejection")) (by decide) (by decide)))
  have f_67 : Fld Z h42 r0 "com/example/orderd/orderd/provider/Notice" "refund" "Z" (.int (0 : Int32)) := Fld.other W42 f_66 (Or.inr (slot_ne (Or.inr (hw _ (List.mem_of_getElem? (i := 95) rfl))) (Or.inr (hw _ (List.mem_of_getElem? (i := 103) rfl))) (by decide) (t := .boolean) (t' := (.object "java/lang/String")) (by decide) (by decide)))
  have f_68 : Fld Z h53 r0 "com/example/orderd/orderd/provider/Notice" "refund" "Z" (.int (0 : Int32)) := Fld.other W53 f_67 (Or.inr (slot_ne (Or.inr (hw _ (List.mem_of_getElem? (i := 95) rfl))) (Or.inr (hw _ (List.mem_of_getElem? (i := 105) rfl))) (by decide) (t := .boolean) (t' := .boolean) (by decide) (by decide)))
  have f_69 : Fld Z h23 r0 "com/example/orderd/orderd/provider/Notice" "sign" "Ljava/lang/String;" .null := Fld.other W23 f_16 (Or.inr (slot_ne (Or.inr (hw _ (List.mem_of_getElem? (i := 97) rfl))) (Or.inr (hw _ (List.mem_of_getElem? (i := 99) rfl))) (by decide) (t := (.object "java/lang/String")) (t' := (.object "com/example/orderd/orderd/provider/Reply")) (by decide) (by decide)))
  have f_70 : Fld Z h32 r0 "com/example/orderd/orderd/provider/Notice" "sign" "Ljava/lang/String;" .null := Fld.other W32 f_69 (Or.inr (slot_ne (Or.inr (hw _ (List.mem_of_getElem? (i := 97) rfl))) (Or.inr (hw _ (List.mem_of_getElem? (i := 101) rfl))) (by decide) (t := (.object "java/lang/String")) (t' := (.object "com/example/orderd/orderd/order/Rejection")) (by decide) (by decide)))
  have f_71 : Fld Z h42 r0 "com/example/orderd/orderd/provider/Notice" "sign" "Ljava/lang/String;" .null := Fld.other W42 f_70 (Or.inr (slot_ne (Or.inr (hw _ (List.mem_of_getElem? (i := 97) rfl))) (Or.inr (hw _ (List.mem_of_getElem? (i := 103) rfl))) (by decide) (t := (.object "java/lang/String")) (t' := (.object "java/lang/String")) (by decide) (by decide)))
  have f_72 : Fld Z h53 r0 "com/example/orderd/orderd/provider/Notice" "sign" "Ljava/lang/String;" .null := Fld.other W53 f_71 (Or.inr (slot_ne (Or.inr (hw _ (List.mem_of_getElem? (i := 97) rfl))) (Or.inr (hw _ (List.mem_of_getElem? (i := 105) rfl))) (by decide) (t := (.object "java/lang/String")) (t' := .boolean) (by decide) (by decide)))
  have f_73 : Fld Z h32 r0 "com/example/orderd/orderd/provider/Notice" "refusal" "Lcom/example/orderd/orderd/provider/Reply;" (.ref r4) := Fld.other W32 f_24 (Or.inr (slot_ne (Or.inr (hw _ (List.mem_of_getElem? (i := 99) rfl))) (Or.inr (hw _ (List.mem_of_getElem? (i := 101) rfl))) (by decide) (t := (.object "com/example/orderd/orderd/provider/Reply")) (t' := (.object "com/example/orderd/orderd/order/Rejection")) (by decide) (by decide)))
  have f_74 : Fld Z h42 r0 "com/example/orderd/orderd/provider/Notice" "refusal" "Lcom/example/orderd/orderd/provider/Reply;" (.ref r4) := Fld.other W42 f_73 (Or.inr (slot_ne (Or.inr (hw _ (List.mem_of_getElem? (i := 99) rfl))) (Or.inr (hw _ (List.mem_of_getElem? (i := 103) rfl))) (by decide) (t := (.object "com/example/orderd/orderd/provider/Reply")) (t' := (.object "java/lang/String")) (by decide) (by decide)))
  have f_75 : Fld Z h53 r0 "com/example/orderd/orderd/provider/Notice" "refusal" "Lcom/example/orderd/orderd/provider/Reply;" (.ref r4) := Fld.other W53 f_74 (Or.inr (slot_ne (Or.inr (hw _ (List.mem_of_getElem? (i := 99) rfl))) (Or.inr (hw _ (List.mem_of_getElem? (i := 105) rfl))) (by decide) (t := (.object "com/example/orderd/orderd/provider/Reply")) (t' := .boolean) (by decide) (by decide)))
  have f_76 : Fld Z h42 r0 "com/example/orderd/orderd/provider/Notice" "rejection" "Lcom/example/orderd/orderd/order/Rejection;" .null := Fld.other W42 f_33 (Or.inr (slot_ne (Or.inr (hw _ (List.mem_of_getElem? (i := 101) rfl))) (Or.inr (hw _ (List.mem_of_getElem? (i := 103) rfl))) (by decide) (t := (.object "com/example/orderd/orderd/order/Rejection")) (t' := (.object "java/lang/String")) (by decide) (by decide)))
  have f_77 : Fld Z h53 r0 "com/example/orderd/orderd/provider/Notice" "rejection" "Lcom/example/orderd/orderd/order/Rejection;" .null := Fld.other W53 f_76 (Or.inr (slot_ne (Or.inr (hw _ (List.mem_of_getElem? (i := 101) rfl))) (Or.inr (hw _ (List.mem_of_getElem? (i := 105) rfl))) (by decide) (t := (.object "com/example/orderd/orderd/order/Rejection")) (t' := .boolean) (by decide) (by decide)))
  have f_78 : Fld Z h53 r0 "com/example/orderd/orderd/provider/Notice" "reason" "Ljava/lang/String;" (.ref r6) := Fld.other W53 f_43 (Or.inr (slot_ne (Or.inr (hw _ (List.mem_of_getElem? (i := 103) rfl))) (Or.inr (hw _ (List.mem_of_getElem? (i := 105) rfl))) (by decide) (t := (.object "java/lang/String")) (t' := .boolean) (by decide) (by decide)))
  exact ⟨rfl, N53, K56, f_63, f_68, f_72, f_75, f_77, f_78, f_54⟩
theorem own_ef_14_11 (m : MethodId) (x0 : Addr) (x1 : Addr) : entryFrame m #[(.ref x0), (.ref x1)] 2 = mkF m 0 #[.val (.ref x0), .val (.ref x1)] [] := by first | (simp [entryFrame, mkF, argsToLocals, Value.category]; done) | rfl
def Q14_11 (Z : State) (r0 : Addr) (r1 : Addr) (h0 : Heap) (n0 : Nat) (v : Option Value) (h : Heap) (L : List Loc) : Prop := ∃ (nr : Addr), v = some (.ref nr) ∧ Fr n0 L ∧ Keep h0 h [] ∧ h0.size ≤ nr ∧ Exa Z h nr "com/example/orderd/orderd/provider/Notice" ∧ Fld Z h nr "com/example/orderd/orderd/provider/Notice" "order" "Lcom/example/orderd/orderd/order/Order;" .null ∧ Fld Z h nr "com/example/orderd/orderd/provider/Notice" "refund" "Z" (.int (0 : Int32)) ∧ Fld Z h nr "com/example/orderd/orderd/provider/Notice" "sign" "Ljava/lang/String;" .null ∧ Fld Z h nr "com/example/orderd/orderd/provider/Notice" "refusal" "Lcom/example/orderd/orderd/provider/Reply;" (.ref r0) ∧ Fld Z h nr "com/example/orderd/orderd/provider/Notice" "rejection" "Lcom/example/orderd/orderd/order/Rejection;" .null ∧ Fld Z h nr "com/example/orderd/orderd/provider/Notice" "reason" "Ljava/lang/String;" (.ref r1) ∧ Fld Z h nr "com/example/orderd/orderd/provider/Notice" "badRequest" "Z" (.int (1 : Int32))
set_option maxRecDepth 65536 in
set_option maxHeartbeats 40000000 in
theorem rm14_11 (l : Launch) (Z : State) (a0 : Array Value) (hw : ∀ d ∈ tables_1, d.before a0 Z = true) (ws : List Jvm.Cond) (r0 : Addr) (r1 : Addr) (h0 : Heap) (n0 : Nat) (Z0 : n0 ≤ h0.size)  :
    MetFree l (⟨"com/example/orderd/orderd/provider/Notice", "badRequest", "(Lcom/example/orderd/orderd/provider/Reply;Ljava/lang/String;)Lcom/example/orderd/orderd/provider/Notice;"⟩ : MethodName) (head1 (Jvm.Cond.code (⟨"com/example/orderd/orderd/provider/Notice", "badRequest", "(Lcom/example/orderd/orderd/provider/Reply;Ljava/lang/String;)Lcom/example/orderd/orderd/provider/Notice;"⟩ : MethodName) prog_26_method_5_code 2 (some (.object "com/example/orderd/orderd/provider/Notice")) :: ws) ({ frames := 2, cells := 1, slots := 7, locals := 32 } : Room)) (fun a U => a = #[(.ref r0), (.ref r1)] ∧ Z.Warmed39 U.vm ∧ U.heap = h0) (fun _ _ _ _ _ => True) (fun _ U o U' => ∃ v L, o = .returned v ∧ Q14_11 Z r0 r1 h0 n0 v U'.heap L ∧ FrameEnd U o U' L ({ frames := 2, cells := 1, slots := 7, locals := 32 } : Room).cells ({ frames := 2, cells := 1, slots := 7, locals := 32 } : Room).slots) := by
  refine MetFree.of_bodySF (plainFor_of_name own_pn4) hisR ?_
  intro p e s m args below meth c s₁ Bd hml0 hP hK
  obtain ⟨rfl, hZ, hh⟩ := hP
  have hx := Bd.exec
  have hby := Bd.bytes
  have hml : c.maxLocals = 2 := hml0
  have hown : s.vm.findClass "com/example/orderd/orderd/provider/Notice" = some m.cls := findClass_of_methodNamed Bd.named
  have hnm := (name_of_methodNamed Bd.named Bd.method).1
  have X0 : Stand p l e ({ frames := 2, cells := 1, slots := 7, locals := 32 } : Room) s m #[(.ref r0), (.ref r1)] below meth c s₁ [] 0 0 := Stand.of_body Bd
  have e0 : s₁.heap = h0 := by rw [← hh, Bd.state]; rfl
  have N0 := Fr.nil n0
  have KR : Keep h0 h0 [] := Keep.refl h0 _
  show Good p e below (fun o U' => ∃ v L, o = .returned v ∧ Q14_11 Z r0 r1 h0 n0 v U'.heap L ∧ FrameEnd s o U' L ({ frames := 2, cells := 1, slots := 7, locals := 32 } : Room).cells ({ frames := 2, cells := 1, slots := 7, locals := 32 } : Room).slots) _
  refine Good.back (S' := s₁.setTop (mkF m 0 #[.val (.ref r0), .val (.ref r1)] [])) (fun t k => castTop (own_ef_14_11 m r0 r1) k) ?_
  show Good p e below _ (s₁.setTop (mkF m 0 #[.val (.ref r0), .val (.ref r1)] []))
  obtain ⟨T1, h1, X1, e1, E1, A1, D1, -, st1⟩ := newO X0 hx hZ hown (hw _ (List.mem_of_getElem? (i := 86) rfl)) (hw _ (List.mem_of_getElem? (i := 87) rfl)) (hw _ (List.mem_of_getElem? (i := 84) rfl)) e0 (g := (mkF m 0 #[.val (.ref r0), .val (.ref r1)] [])) rfl (hb hby own_d14_0) (by decide) (by decide)
  obtain ⟨b1, g1⟩ : ∃ z, z = h0.size := ⟨_, rfl⟩
  rw [← g1] at A1 D1 st1
  refine Good.back st1 ?_
  have g_b1 : n0 ≤ b1 := Nat.le_trans Z0 (Nat.le_of_eq g1.symm)
  have sz_b1 : h0.size ≤ b1 := Nat.le_trans KR.1 (Nat.le_of_eq g1.symm)
  have Z2 : n0 ≤ h1.size := Nat.le_trans Z0 E1.1
  have K3 : Keep h0 h1 [] := KR.ext E1
  have f_4 : Exa Z h1 b1 "com/example/orderd/orderd/provider/Notice" := A1
  have f_5 : Fld Z h1 b1 "com/example/orderd/orderd/provider/Notice" "order" "Lcom/example/orderd/orderd/order/Order;" .null := D1 (Or.inr (hw _ (List.mem_of_getElem? (i := 93) rfl))) (ty := (.object "com/example/orderd/orderd/order/Order")) (by decide)
  have f_6 : Fld Z h1 b1 "com/example/orderd/orderd/provider/Notice" "refund" "Z" (.int (0 : Int32)) := D1 (Or.inr (hw _ (List.mem_of_getElem? (i := 95) rfl))) (ty := .boolean) (by decide)
  have f_7 : Fld Z h1 b1 "com/example/orderd/orderd/provider/Notice" "sign" "Ljava/lang/String;" .null := D1 (Or.inr (hw _ (List.mem_of_getElem? (i := 97) rfl))) (ty := (.object "java/lang/String")) (by decide)
  have f_8 : Fld Z h1 b1 "com/example/orderd/orderd/provider/Notice" "refusal" "Lcom/example/orderd/orderd/provider/Reply;" .null := D1 (Or.inr (hw _ (List.mem_of_getElem? (i := 99) rfl))) (ty := (.object "com/example/orderd/orderd/provider/Reply")) (by decide)
  have f_9 : Fld Z h1 b1 "com/example/orderd/orderd/provider/Notice" "rejection" "Lcom/example/orderd/orderd/order/Rejection;" .null := D1 (Or.inr (hw _ (List.mem_of_getElem? (i := 101) rfl))) (ty := (.object "com/example/orderd/orderd/order/Rejection")) (by decide)
  have f_10 : Fld Z h1 b1 "com/example/orderd/orderd/provider/Notice" "reason" "Ljava/lang/String;" .null := D1 (Or.inr (hw _ (List.mem_of_getElem? (i := 103) rfl))) (ty := (.object "java/lang/String")) (by decide)
  have f_11 : Fld Z h1 b1 "com/example/orderd/orderd/provider/Notice" "badRequest" "Z" (.int (0 : Int32)) := D1 (Or.inr (hw _ (List.mem_of_getElem? (i := 105) rfl))) (ty := .boolean) (by decide)
  show Good p e below _ (T1.setTop (mkF m 3 #[.val (.ref r0), .val (.ref r1)] [(.ref b1)]))
  refine Good.back (fun _ k => XS.dup X1.here hx rfl (hb hby own_d14_3) rfl rfl k) ?_
  show Good p e below _ (T1.setTop (mkF m 4 #[.val (.ref r0), .val (.ref r1)] [(.ref b1), (.ref b1)]))
  refine Good.back (fun _ k => XS.aconstNull X1.here hx rfl (hb hby own_d14_4) k) ?_
  show Good p e below _ (T1.setTop (mkF m 5 #[.val (.ref r0), .val (.ref r1)] [.null, (.ref b1), (.ref b1)]))
  refine Good.back (fun _ k => XS.iconst X1.here hx rfl (hb hby own_d14_5) k) ?_
  show Good p e below _ (T1.setTop (mkF m 6 #[.val (.ref r0), .val (.ref r1)] [(.int (0 : Int32)), .null, (.ref b1), (.ref b1)]))
  refine Good.back (fun _ k => XS.aconstNull X1.here hx rfl (hb hby own_d14_6) k) ?_
  show Good p e below _ (T1.setTop (mkF m 7 #[.val (.ref r0), .val (.ref r1)] [.null, (.int (0 : Int32)), .null, (.ref b1), (.ref b1)]))
  refine Good.back (fun _ k => XS.aloadN X1.here hx rfl (hb hby own_d14_7) rfl rfl k) ?_
  show Good p e below _ (T1.setTop (mkF m 8 #[.val (.ref r0), .val (.ref r1)] [(.ref r0), .null, (.int (0 : Int32)), .null, (.ref b1), (.ref b1)]))
  refine Good.back (fun _ k => XS.aconstNull X1.here hx rfl (hb hby own_d14_8) k) ?_
  show Good p e below _ (T1.setTop (mkF m 9 #[.val (.ref r0), .val (.ref r1)] [.null, (.ref r0), .null, (.int (0 : Int32)), .null, (.ref b1), (.ref b1)]))
  refine Good.back (fun _ k => XS.aloadN X1.here hx rfl (hb hby own_d14_9) rfl rfl k) ?_
  show Good p e below _ (T1.setTop (mkF m 10 #[.val (.ref r0), .val (.ref r1)] [(.ref r1), .null, (.ref r0), .null, (.int (0 : Int32)), .null, (.ref b1), (.ref b1)]))
  refine Good.back (fun _ k => XS.iconst X1.here hx rfl (hb hby own_d14_10) k) ?_
  show Good p e below _ (T1.setTop (mkF m 11 #[.val (.ref r0), .val (.ref r1)] [(.int (1 : Int32)), (.ref r1), .null, (.ref r0), .null, (.int (0 : Int32)), .null, (.ref b1), (.ref b1)]))
  obtain ⟨_, _, ⟨T12, L12, k12, n12⟩, -, X12, ⟨Lc12, hQ12, l12, y12, z12⟩, st12⟩ := X1.specialBack hx (y := (⟨"com/example/orderd/orderd/provider/Notice", "<init>", "(Lcom/example/orderd/orderd/order/Order;ZLjava/lang/String;Lcom/example/orderd/orderd/provider/Reply;Lcom/example/orderd/orderd/order/Rejection;Ljava/lang/String;Z)V"⟩ : MethodName)) rfl hown (mvT hZ (hw _ (List.mem_of_getElem? (i := 88) rfl))) (mvT hZ (hw _ (List.mem_of_getElem? (i := 89) rfl))) (mvT hZ (hw _ (List.mem_of_getElem? (i := 90) rfl))) (by decide) (backOf (W := 1) (rm15_11 l Z a0 hw [] b1 r0 r1  h1 n0 Z2 f_4 g_b1 f_5 f_6 f_7 f_8 f_9 f_10 f_11) hZ (hw _ (List.mem_of_getElem? (i := 90) rfl)) (hw _ (List.mem_of_getElem? (i := 84) rfl)) (by decide) (by decide)) (g := (mkF m 11 #[.val (.ref r0), .val (.ref r1)] [(.int (1 : Int32)), (.ref r1), .null, (.ref r0), .null, (.int (0 : Int32)), .null, (.ref b1), (.ref b1)])) rfl (by rw [hml]; rfl) (Steps.refl _) (a := b1) (argsL := [.null, (.int (0 : Int32)), .null, (.ref r0), .null, (.ref r1), (.int (1 : Int32))]) (rest := [(.ref b1)]) (lenOf own_pd257 rfl) rfl (by show 2 * 0 + _ ≤ _; exact Nat.le_of_eq rfl) (hb hby own_d14_11) (fun _ _ => ⟨rfl, e1, (by decide : 1 + 0 ≤ _), (by decide : 7 + 0 ≤ _)⟩)
  dsimp only [Pt.U, Pt.locs, Pt.cells, Pt.slots] at X12 l12 y12 z12 st12 hQ12
  subst l12 y12 z12
  obtain ⟨rfl, N12q, Kq12, o12_0, o12_1, o12_2, o12_3, o12_4, o12_5, o12_6⟩ := hQ12
  have N12 := Fr.app N0 N12q
  have Z13 : n0 ≤ T12.heap.size := Nat.le_trans Z2 Kq12.1
  have K14 : Keep h0 T12.heap [] := K3.trans Kq12 (allS (Or.inr sz_b1) all0)
  refine Good.back (fun _ k => st12.trans k) ?_
  show Good p e below _ (T12.setTop (mkF m 14 #[.val (.ref r0), .val (.ref r1)] [(.ref b1)]))
  obtain ⟨fs15, hr15, hrun15, hended15, hW15, hsame15⟩ := X12.leave (v := some (.ref b1)) (fun h => by rw [Bd.returns] at h; cases h)
  refine Good.done (retOut X12 hx Bd.returns rfl (Or.inr (Or.inr (Or.inr (Or.inr ⟨rfl, rfl, rfl⟩)))) (hb hby own_d14_14) hr15) hrun15 hended15 ⟨_, _, rfl, ?_, ⟨_, rfl⟩, hW15, hsame15.mono (by decide) (by decide)⟩
  show Q14_11 Z r0 r1 h0 n0 _ T12.heap _
  have f_16 : Exa Z T12.heap b1 "com/example/orderd/orderd/provider/Notice" := Exa.keep f_4 Kq12
  exact ⟨_, rfl, N12, K14, sz_b1, f_16, o12_0, o12_1, o12_2, o12_3, o12_4, o12_5, o12_6⟩
theorem own_d16_0 : decode prog_26_method_9_code 0 = .ok (.aload_n 0, 1) := by decide +kernel
theorem own_d16_1 : decode prog_26_method_9_code 1 = .ok (.getfield 7, 3) := by decide +kernel
theorem own_d16_4 : decode prog_26_method_9_code 4 = .ok (.ifnonnull 7, 3) := by decide +kernel
theorem own_d16_7 : decode prog_26_method_9_code 7 = .ok (.iconst 1, 1) := by decide +kernel
theorem own_d16_8 : decode prog_26_method_9_code 8 = .ok (.goto 4, 3) := by decide +kernel
theorem own_d16_12 : decode prog_26_method_9_code 12 = .ok (.ireturn, 1) := by decide +kernel
theorem own_ef_16 (m : MethodId) (x0 : Addr) : entryFrame m #[(.ref x0)] 1 = mkF m 0 #[.val (.ref x0)] [] := by first | (simp [entryFrame, mkF, argsToLocals, Value.category]; done) | rfl
def Q16 (Z : State) (r0 : Addr) (h0 : Heap) (n0 : Nat) (v : Option Value) (h : Heap) (L : List Loc) : Prop := v = some (.int (1 : Int32)) ∧ Fr n0 L ∧ h = h0
set_option maxRecDepth 65536 in
set_option maxHeartbeats 40000000 in
theorem rm16 (l : Launch) (Z : State) (a0 : Array Value) (hw : ∀ d ∈ tables_1, d.before a0 Z = true) (ws : List Jvm.Cond) (r0 : Addr) (h0 : Heap) (n0 : Nat) (Z0 : n0 ≤ h0.size) (F0 : Fld Z h0 r0 "com/example/orderd/orderd/provider/Notice" "order" "Lcom/example/orderd/orderd/order/Order;" .null) :
    MetFree l (⟨"com/example/orderd/orderd/provider/Notice", "isRefused", "()Z"⟩ : MethodName) (head1 (Jvm.Cond.code (⟨"com/example/orderd/orderd/provider/Notice", "isRefused", "()Z"⟩ : MethodName) prog_26_method_9_code 1 (some .boolean) :: ws) ({ frames := 0, cells := 0, slots := 0, locals := 0 } : Room)) (fun a U => a = #[(.ref r0)] ∧ Z.Warmed39 U.vm ∧ U.heap = h0) (fun _ _ _ _ _ => True) (fun _ U o U' => ∃ v L, o = .returned v ∧ Q16 Z r0 h0 n0 v U'.heap L ∧ FrameEnd U o U' L ({ frames := 0, cells := 0, slots := 0, locals := 0 } : Room).cells ({ frames := 0, cells := 0, slots := 0, locals := 0 } : Room).slots) := by
  refine MetFree.of_bodySF (plainFor_of_name own_pn4) hisR ?_
  intro p e s m args below meth c s₁ Bd hml0 hP hK
  obtain ⟨rfl, hZ, hh⟩ := hP
  have hx := Bd.exec
  have hby := Bd.bytes
  have hml : c.maxLocals = 1 := hml0
  have hown : s.vm.findClass "com/example/orderd/orderd/provider/Notice" = some m.cls := findClass_of_methodNamed Bd.named
  have hnm := (name_of_methodNamed Bd.named Bd.method).1
  have X0 : Stand p l e ({ frames := 0, cells := 0, slots := 0, locals := 0 } : Room) s m #[(.ref r0)] below meth c s₁ [] 0 0 := Stand.of_body Bd
  have e0 : s₁.heap = h0 := by rw [← hh, Bd.state]; rfl
  have N0 := Fr.nil n0
  show Good p e below (fun o U' => ∃ v L, o = .returned v ∧ Q16 Z r0 h0 n0 v U'.heap L ∧ FrameEnd s o U' L ({ frames := 0, cells := 0, slots := 0, locals := 0 } : Room).cells ({ frames := 0, cells := 0, slots := 0, locals := 0 } : Room).slots) _
  refine Good.back (S' := s₁.setTop (mkF m 0 #[.val (.ref r0)] [])) (fun t k => castTop (own_ef_16 m r0) k) ?_
  show Good p e below _ (s₁.setTop (mkF m 0 #[.val (.ref r0)] []))
  refine Good.back (fun _ k => XS.aloadN X0.here hx rfl (hb hby own_d16_0) rfl rfl k) ?_
  show Good p e below _ (s₁.setTop (mkF m 1 #[.val (.ref r0)] [(.ref r0)]))
  obtain ⟨T1, X1, e1, st1⟩ := getF X0 hx hZ hown (host := "") (Or.inl (hw _ (List.mem_of_getElem? (i := 92) rfl))) Via.refl e0 F0 (g := (mkF m 1 #[.val (.ref r0)] [(.ref r0)])) rfl rfl (hb hby own_d16_1)
  refine Good.back st1 ?_
  show Good p e below _ (T1.setTop (mkF m 4 #[.val (.ref r0)] [.null]))
  refine Good.back (fun _ k => XS.ifnonnullNo X1.here hx rfl (hb hby own_d16_4) rfl k) ?_
  show Good p e below _ (T1.setTop (mkF m 7 #[.val (.ref r0)] []))
  refine Good.back (fun _ k => XS.iconst X1.here hx rfl (hb hby own_d16_7) k) ?_
  show Good p e below _ (T1.setTop (mkF m 8 #[.val (.ref r0)] [(.int (1 : Int32))]))
  refine Good.back (fun _ k => XS.goto X1.here hx rfl (pc0 := 8) (pc' := 12) rfl (hb hby own_d16_8) (by decide) (by decide) k) ?_
  show Good p e below _ (T1.setTop (mkF m 12 #[.val (.ref r0)] [(.int (1 : Int32))]))
  obtain ⟨fs2, hr2, hrun2, hended2, hW2, hsame2⟩ := X1.leave (v := some (.int (1 : Int32))) (fun h => by rw [Bd.returns] at h; cases h)
  refine Good.done (retN X1 hx (t := .boolean) Bd.returns (by simp) (hb hby own_d16_12) hr2) hrun2 hended2 ⟨_, _, rfl, ?_, ⟨_, rfl⟩, hW2, hsame2.mono (by decide) (by decide)⟩
  show Q16 Z r0 h0 n0 _ T1.heap _
  rw [e1]
  exact ⟨rfl, N0, rfl⟩
theorem own_d17_0 : decode prog_26_method_10_code 0 = .ok (.aload_n 0, 1) := by decide +kernel
theorem own_d17_1 : decode prog_26_method_10_code 1 = .ok (.getfield 32, 3) := by decide +kernel
theorem own_d17_4 : decode prog_26_method_10_code 4 = .ok (.ireturn, 1) := by decide +kernel
theorem own_ef_17 (m : MethodId) (x0 : Addr) : entryFrame m #[(.ref x0)] 1 = mkF m 0 #[.val (.ref x0)] [] := by first | (simp [entryFrame, mkF, argsToLocals, Value.category]; done) | rfl
def Q17 (Z : State) (r0 : Addr) (h0 : Heap) (n0 : Nat) (v : Option Value) (h : Heap) (L : List Loc) : Prop := v = some (.int (1 : Int32)) ∧ Fr n0 L ∧ h = h0
set_option maxRecDepth 65536 in
set_option maxHeartbeats 40000000 in
theorem rm17 (l : Launch) (Z : State) (a0 : Array Value) (hw : ∀ d ∈ tables_1, d.before a0 Z = true) (ws : List Jvm.Cond) (r0 : Addr) (h0 : Heap) (n0 : Nat) (Z0 : n0 ≤ h0.size) (F0 : Fld Z h0 r0 "com/example/orderd/orderd/provider/Notice" "badRequest" "Z" (.int (1 : Int32))) :
    MetFree l (⟨"com/example/orderd/orderd/provider/Notice", "isBadRequest", "()Z"⟩ : MethodName) (head1 (Jvm.Cond.code (⟨"com/example/orderd/orderd/provider/Notice", "isBadRequest", "()Z"⟩ : MethodName) prog_26_method_10_code 1 (some .boolean) :: ws) ({ frames := 0, cells := 0, slots := 0, locals := 0 } : Room)) (fun a U => a = #[(.ref r0)] ∧ Z.Warmed39 U.vm ∧ U.heap = h0) (fun _ _ _ _ _ => True) (fun _ U o U' => ∃ v L, o = .returned v ∧ Q17 Z r0 h0 n0 v U'.heap L ∧ FrameEnd U o U' L ({ frames := 0, cells := 0, slots := 0, locals := 0 } : Room).cells ({ frames := 0, cells := 0, slots := 0, locals := 0 } : Room).slots) := by
  refine MetFree.of_bodySF (plainFor_of_name own_pn4) hisR ?_
  intro p e s m args below meth c s₁ Bd hml0 hP hK
  obtain ⟨rfl, hZ, hh⟩ := hP
  have hx := Bd.exec
  have hby := Bd.bytes
  have hml : c.maxLocals = 1 := hml0
  have hown : s.vm.findClass "com/example/orderd/orderd/provider/Notice" = some m.cls := findClass_of_methodNamed Bd.named
  have hnm := (name_of_methodNamed Bd.named Bd.method).1
  have X0 : Stand p l e ({ frames := 0, cells := 0, slots := 0, locals := 0 } : Room) s m #[(.ref r0)] below meth c s₁ [] 0 0 := Stand.of_body Bd
  have e0 : s₁.heap = h0 := by rw [← hh, Bd.state]; rfl
  have N0 := Fr.nil n0
  show Good p e below (fun o U' => ∃ v L, o = .returned v ∧ Q17 Z r0 h0 n0 v U'.heap L ∧ FrameEnd s o U' L ({ frames := 0, cells := 0, slots := 0, locals := 0 } : Room).cells ({ frames := 0, cells := 0, slots := 0, locals := 0 } : Room).slots) _
  refine Good.back (S' := s₁.setTop (mkF m 0 #[.val (.ref r0)] [])) (fun t k => castTop (own_ef_17 m r0) k) ?_
  show Good p e below _ (s₁.setTop (mkF m 0 #[.val (.ref r0)] []))
  refine Good.back (fun _ k => XS.aloadN X0.here hx rfl (hb hby own_d17_0) rfl rfl k) ?_
  show Good p e below _ (s₁.setTop (mkF m 1 #[.val (.ref r0)] [(.ref r0)]))
  obtain ⟨T1, X1, e1, st1⟩ := getF X0 hx hZ hown (host := "") (Or.inl (hw _ (List.mem_of_getElem? (i := 104) rfl))) Via.refl e0 F0 (g := (mkF m 1 #[.val (.ref r0)] [(.ref r0)])) rfl rfl (hb hby own_d17_1)
  refine Good.back st1 ?_
  show Good p e below _ (T1.setTop (mkF m 4 #[.val (.ref r0)] [(.int (1 : Int32))]))
  obtain ⟨fs2, hr2, hrun2, hended2, hW2, hsame2⟩ := X1.leave (v := some (.int (1 : Int32))) (fun h => by rw [Bd.returns] at h; cases h)
  refine Good.done (retN X1 hx (t := .boolean) Bd.returns (by simp) (hb hby own_d17_4) hr2) hrun2 hended2 ⟨_, _, rfl, ?_, ⟨_, rfl⟩, hW2, hsame2.mono (by decide) (by decide)⟩
  show Q17 Z r0 h0 n0 _ T1.heap _
  rw [e1]
  exact ⟨rfl, N0, rfl⟩
theorem own_d18_0 : decode prog_26_method_11_code 0 = .ok (.aload_n 0, 1) := by decide +kernel
theorem own_d18_1 : decode prog_26_method_11_code 1 = .ok (.getfield 25, 3) := by decide +kernel
theorem own_d18_4 : decode prog_26_method_11_code 4 = .ok (.ifnull 7, 3) := by decide +kernel
theorem own_d18_11 : decode prog_26_method_11_code 11 = .ok (.iconst 0, 1) := by decide +kernel
theorem own_d18_12 : decode prog_26_method_11_code 12 = .ok (.ireturn, 1) := by decide +kernel
theorem own_ef_18 (m : MethodId) (x0 : Addr) : entryFrame m #[(.ref x0)] 1 = mkF m 0 #[.val (.ref x0)] [] := by first | (simp [entryFrame, mkF, argsToLocals, Value.category]; done) | rfl
def Q18 (Z : State) (r0 : Addr) (h0 : Heap) (n0 : Nat) (v : Option Value) (h : Heap) (L : List Loc) : Prop := v = some (.int (0 : Int32)) ∧ Fr n0 L ∧ h = h0
set_option maxRecDepth 65536 in
set_option maxHeartbeats 40000000 in
theorem rm18 (l : Launch) (Z : State) (a0 : Array Value) (hw : ∀ d ∈ tables_1, d.before a0 Z = true) (ws : List Jvm.Cond) (r0 : Addr) (h0 : Heap) (n0 : Nat) (Z0 : n0 ≤ h0.size) (F0 : Fld Z h0 r0 "com/example/orderd/orderd/provider/Notice" "rejection" "Lcom/example/orderd/orderd/order/Rejection;" .null) :
    MetFree l (⟨"com/example/orderd/orderd/provider/Notice", "isRejected", "()Z"⟩ : MethodName) (head1 (Jvm.Cond.code (⟨"com/example/orderd/orderd/provider/Notice", "isRejected", "()Z"⟩ : MethodName) prog_26_method_11_code 1 (some .boolean) :: ws) ({ frames := 0, cells := 0, slots := 0, locals := 0 } : Room)) (fun a U => a = #[(.ref r0)] ∧ Z.Warmed39 U.vm ∧ U.heap = h0) (fun _ _ _ _ _ => True) (fun _ U o U' => ∃ v L, o = .returned v ∧ Q18 Z r0 h0 n0 v U'.heap L ∧ FrameEnd U o U' L ({ frames := 0, cells := 0, slots := 0, locals := 0 } : Room).cells ({ frames := 0, cells := 0, slots := 0, locals := 0 } : Room).slots) := by
  refine MetFree.of_bodySF (plainFor_of_name own_pn4) hisR ?_
  intro p e s m args below meth c s₁ Bd hml0 hP hK
  obtain ⟨rfl, hZ, hh⟩ := hP
  have hx := Bd.exec
  have hby := Bd.bytes
  have hml : c.maxLocals = 1 := hml0
  have hown : s.vm.findClass "com/example/orderd/orderd/provider/Notice" = some m.cls := findClass_of_methodNamed Bd.named
  have hnm := (name_of_methodNamed Bd.named Bd.method).1
  have X0 : Stand p l e ({ frames := 0, cells := 0, slots := 0, locals := 0 } : Room) s m #[(.ref r0)] below meth c s₁ [] 0 0 := Stand.of_body Bd
  have e0 : s₁.heap = h0 := by rw [← hh, Bd.state]; rfl
  have N0 := Fr.nil n0
  show Good p e below (fun o U' => ∃ v L, o = .returned v ∧ Q18 Z r0 h0 n0 v U'.heap L ∧ FrameEnd s o U' L ({ frames := 0, cells := 0, slots := 0, locals := 0 } : Room).cells ({ frames := 0, cells := 0, slots := 0, locals := 0 } : Room).slots) _
  refine Good.back (S' := s₁.setTop (mkF m 0 #[.val (.ref r0)] [])) (fun t k => castTop (own_ef_18 m r0) k) ?_
  show Good p e below _ (s₁.setTop (mkF m 0 #[.val (.ref r0)] []))
  refine Good.back (fun _ k => XS.aloadN X0.here hx rfl (hb hby own_d18_0) rfl rfl k) ?_
  show Good p e below _ (s₁.setTop (mkF m 1 #[.val (.ref r0)] [(.ref r0)]))
  obtain ⟨T1, X1, e1, st1⟩ := getF X0 hx hZ hown (host := "") (Or.inl (hw _ (List.mem_of_getElem? (i := 100) rfl))) Via.refl e0 F0 (g := (mkF m 1 #[.val (.ref r0)] [(.ref r0)])) rfl rfl (hb hby own_d18_1)
  refine Good.back st1 ?_
  show Good p e below _ (T1.setTop (mkF m 4 #[.val (.ref r0)] [.null]))
  refine Good.back (fun _ k => XS.ifnullYes X1.here hx rfl (pc0 := 4) (pc' := 11) rfl (hb hby own_d18_4) rfl (by decide) (by decide) k) ?_
  show Good p e below _ (T1.setTop (mkF m 11 #[.val (.ref r0)] []))
  refine Good.back (fun _ k => XS.iconst X1.here hx rfl (hb hby own_d18_11) k) ?_
  show Good p e below _ (T1.setTop (mkF m 12 #[.val (.ref r0)] [(.int (0 : Int32))]))
  obtain ⟨fs2, hr2, hrun2, hended2, hW2, hsame2⟩ := X1.leave (v := some (.int (0 : Int32))) (fun h => by rw [Bd.returns] at h; cases h)
  refine Good.done (retN X1 hx (t := .boolean) Bd.returns (by simp) (hb hby own_d18_12) hr2) hrun2 hended2 ⟨_, _, rfl, ?_, ⟨_, rfl⟩, hW2, hsame2.mono (by decide) (by decide)⟩
  show Q18 Z r0 h0 n0 _ T1.heap _
  rw [e1]
  exact ⟨rfl, N0, rfl⟩
theorem own_d19_0 : decode prog_26_method_12_code 0 = .ok (.aload_n 0, 1) := by decide +kernel
theorem own_d19_1 : decode prog_26_method_12_code 1 = .ok (.getfield 13, 3) := by decide +kernel
theorem own_d19_4 : decode prog_26_method_12_code 4 = .ok (.ireturn, 1) := by decide +kernel
theorem own_ef_19 (m : MethodId) (x0 : Addr) : entryFrame m #[(.ref x0)] 1 = mkF m 0 #[.val (.ref x0)] [] := by first | (simp [entryFrame, mkF, argsToLocals, Value.category]; done) | rfl
def Q19 (Z : State) (r0 : Addr) (h0 : Heap) (n0 : Nat) (v : Option Value) (h : Heap) (L : List Loc) : Prop := v = some (.int (0 : Int32)) ∧ Fr n0 L ∧ h = h0
set_option maxRecDepth 65536 in
set_option maxHeartbeats 40000000 in
theorem rm19 (l : Launch) (Z : State) (a0 : Array Value) (hw : ∀ d ∈ tables_1, d.before a0 Z = true) (ws : List Jvm.Cond) (r0 : Addr) (h0 : Heap) (n0 : Nat) (Z0 : n0 ≤ h0.size) (F0 : Fld Z h0 r0 "com/example/orderd/orderd/provider/Notice" "refund" "Z" (.int (0 : Int32))) :
    MetFree l (⟨"com/example/orderd/orderd/provider/Notice", "isRefund", "()Z"⟩ : MethodName) (head1 (Jvm.Cond.code (⟨"com/example/orderd/orderd/provider/Notice", "isRefund", "()Z"⟩ : MethodName) prog_26_method_12_code 1 (some .boolean) :: ws) ({ frames := 0, cells := 0, slots := 0, locals := 0 } : Room)) (fun a U => a = #[(.ref r0)] ∧ Z.Warmed39 U.vm ∧ U.heap = h0) (fun _ _ _ _ _ => True) (fun _ U o U' => ∃ v L, o = .returned v ∧ Q19 Z r0 h0 n0 v U'.heap L ∧ FrameEnd U o U' L ({ frames := 0, cells := 0, slots := 0, locals := 0 } : Room).cells ({ frames := 0, cells := 0, slots := 0, locals := 0 } : Room).slots) := by
  refine MetFree.of_bodySF (plainFor_of_name own_pn4) hisR ?_
  intro p e s m args below meth c s₁ Bd hml0 hP hK
  obtain ⟨rfl, hZ, hh⟩ := hP
  have hx := Bd.exec
  have hby := Bd.bytes
  have hml : c.maxLocals = 1 := hml0
  have hown : s.vm.findClass "com/example/orderd/orderd/provider/Notice" = some m.cls := findClass_of_methodNamed Bd.named
  have hnm := (name_of_methodNamed Bd.named Bd.method).1
  have X0 : Stand p l e ({ frames := 0, cells := 0, slots := 0, locals := 0 } : Room) s m #[(.ref r0)] below meth c s₁ [] 0 0 := Stand.of_body Bd
  have e0 : s₁.heap = h0 := by rw [← hh, Bd.state]; rfl
  have N0 := Fr.nil n0
  show Good p e below (fun o U' => ∃ v L, o = .returned v ∧ Q19 Z r0 h0 n0 v U'.heap L ∧ FrameEnd s o U' L ({ frames := 0, cells := 0, slots := 0, locals := 0 } : Room).cells ({ frames := 0, cells := 0, slots := 0, locals := 0 } : Room).slots) _
  refine Good.back (S' := s₁.setTop (mkF m 0 #[.val (.ref r0)] [])) (fun t k => castTop (own_ef_19 m r0) k) ?_
  show Good p e below _ (s₁.setTop (mkF m 0 #[.val (.ref r0)] []))
  refine Good.back (fun _ k => XS.aloadN X0.here hx rfl (hb hby own_d19_0) rfl rfl k) ?_
  show Good p e below _ (s₁.setTop (mkF m 1 #[.val (.ref r0)] [(.ref r0)]))
  obtain ⟨T1, X1, e1, st1⟩ := getF X0 hx hZ hown (host := "") (Or.inl (hw _ (List.mem_of_getElem? (i := 94) rfl))) Via.refl e0 F0 (g := (mkF m 1 #[.val (.ref r0)] [(.ref r0)])) rfl rfl (hb hby own_d19_1)
  refine Good.back st1 ?_
  show Good p e below _ (T1.setTop (mkF m 4 #[.val (.ref r0)] [(.int (0 : Int32))]))
  obtain ⟨fs2, hr2, hrun2, hended2, hW2, hsame2⟩ := X1.leave (v := some (.int (0 : Int32))) (fun h => by rw [Bd.returns] at h; cases h)
  refine Good.done (retN X1 hx (t := .boolean) Bd.returns (by simp) (hb hby own_d19_4) hr2) hrun2 hended2 ⟨_, _, rfl, ?_, ⟨_, rfl⟩, hW2, hsame2.mono (by decide) (by decide)⟩
  show Q19 Z r0 h0 n0 _ T1.heap _
  rw [e1]
  exact ⟨rfl, N0, rfl⟩
theorem own_d20_0 : decode prog_26_method_13_code 0 = .ok (.aload_n 0, 1) := by decide +kernel
theorem own_d20_1 : decode prog_26_method_13_code 1 = .ok (.getfield 7, 3) := by decide +kernel
theorem own_d20_4 : decode prog_26_method_13_code 4 = .ok (.areturn, 1) := by decide +kernel
theorem own_ef_20 (m : MethodId) (x0 : Addr) : entryFrame m #[(.ref x0)] 1 = mkF m 0 #[.val (.ref x0)] [] := by first | (simp [entryFrame, mkF, argsToLocals, Value.category]; done) | rfl
def Q20 (Z : State) (r0 : Addr) (h0 : Heap) (n0 : Nat) (v : Option Value) (h : Heap) (L : List Loc) : Prop := v = some .null ∧ Fr n0 L ∧ h = h0
set_option maxRecDepth 65536 in
set_option maxHeartbeats 40000000 in
theorem rm20 (l : Launch) (Z : State) (a0 : Array Value) (hw : ∀ d ∈ tables_1, d.before a0 Z = true) (ws : List Jvm.Cond) (r0 : Addr) (h0 : Heap) (n0 : Nat) (Z0 : n0 ≤ h0.size) (F0 : Fld Z h0 r0 "com/example/orderd/orderd/provider/Notice" "order" "Lcom/example/orderd/orderd/order/Order;" .null) :
    MetFree l (⟨"com/example/orderd/orderd/provider/Notice", "order", "()Lcom/example/orderd/orderd/order/Order;"⟩ : MethodName) (head1 (Jvm.Cond.code (⟨"com/example/orderd/orderd/provider/Notice", "order", "()Lcom/example/orderd/orderd/order/Order;"⟩ : MethodName) prog_26_method_13_code 1 (some (.object "com/example/orderd/orderd/order/Order")) :: ws) ({ frames := 0, cells := 0, slots := 0, locals := 0 } : Room)) (fun a U => a = #[(.ref r0)] ∧ Z.Warmed39 U.vm ∧ U.heap = h0) (fun _ _ _ _ _ => True) (fun _ U o U' => ∃ v L, o = .returned v ∧ Q20 Z r0 h0 n0 v U'.heap L ∧ FrameEnd U o U' L ({ frames := 0, cells := 0, slots := 0, locals := 0 } : Room).cells ({ frames := 0, cells := 0, slots := 0, locals := 0 } : Room).slots) := by
  refine MetFree.of_bodySF (plainFor_of_name own_pn4) hisR ?_
  intro p e s m args below meth c s₁ Bd hml0 hP hK
  obtain ⟨rfl, hZ, hh⟩ := hP
  have hx := Bd.exec
  have hby := Bd.bytes
  have hml : c.maxLocals = 1 := hml0
  have hown : s.vm.findClass "com/example/orderd/orderd/provider/Notice" = some m.cls := findClass_of_methodNamed Bd.named
  have hnm := (name_of_methodNamed Bd.named Bd.method).1
  have X0 : Stand p l e ({ frames := 0, cells := 0, slots := 0, locals := 0 } : Room) s m #[(.ref r0)] below meth c s₁ [] 0 0 := Stand.of_body Bd
  have e0 : s₁.heap = h0 := by rw [← hh, Bd.state]; rfl
  have N0 := Fr.nil n0
  show Good p e below (fun o U' => ∃ v L, o = .returned v ∧ Q20 Z r0 h0 n0 v U'.heap L ∧ FrameEnd s o U' L ({ frames := 0, cells := 0, slots := 0, locals := 0 } : Room).cells ({ frames := 0, cells := 0, slots := 0, locals := 0 } : Room).slots) _
  refine Good.back (S' := s₁.setTop (mkF m 0 #[.val (.ref r0)] [])) (fun t k => castTop (own_ef_20 m r0) k) ?_
  show Good p e below _ (s₁.setTop (mkF m 0 #[.val (.ref r0)] []))
  refine Good.back (fun _ k => XS.aloadN X0.here hx rfl (hb hby own_d20_0) rfl rfl k) ?_
  show Good p e below _ (s₁.setTop (mkF m 1 #[.val (.ref r0)] [(.ref r0)]))
  obtain ⟨T1, X1, e1, st1⟩ := getF X0 hx hZ hown (host := "") (Or.inl (hw _ (List.mem_of_getElem? (i := 92) rfl))) Via.refl e0 F0 (g := (mkF m 1 #[.val (.ref r0)] [(.ref r0)])) rfl rfl (hb hby own_d20_1)
  refine Good.back st1 ?_
  show Good p e below _ (T1.setTop (mkF m 4 #[.val (.ref r0)] [.null]))
  obtain ⟨fs2, hr2, hrun2, hended2, hW2, hsame2⟩ := X1.leave (v := some .null) (fun h => by rw [Bd.returns] at h; cases h)
  refine Good.done (retOut X1 hx Bd.returns rfl (Or.inr (Or.inr (Or.inr (Or.inr ⟨rfl, rfl, rfl⟩)))) (hb hby own_d20_4) hr2) hrun2 hended2 ⟨_, _, rfl, ?_, ⟨_, rfl⟩, hW2, hsame2.mono (by decide) (by decide)⟩
  show Q20 Z r0 h0 n0 _ T1.heap _
  rw [e1]
  exact ⟨rfl, N0, rfl⟩
theorem own_d21_0 : decode prog_26_method_14_code 0 = .ok (.aload_n 0, 1) := by decide +kernel
theorem own_d21_1 : decode prog_26_method_14_code 1 = .ok (.getfield 17, 3) := by decide +kernel
theorem own_d21_4 : decode prog_26_method_14_code 4 = .ok (.areturn, 1) := by decide +kernel
theorem own_ef_21 (m : MethodId) (x0 : Addr) : entryFrame m #[(.ref x0)] 1 = mkF m 0 #[.val (.ref x0)] [] := by first | (simp [entryFrame, mkF, argsToLocals, Value.category]; done) | rfl
def Q21 (Z : State) (r0 : Addr) (h0 : Heap) (n0 : Nat) (v : Option Value) (h : Heap) (L : List Loc) : Prop := v = some .null ∧ Fr n0 L ∧ h = h0
set_option maxRecDepth 65536 in
set_option maxHeartbeats 40000000 in
theorem rm21 (l : Launch) (Z : State) (a0 : Array Value) (hw : ∀ d ∈ tables_1, d.before a0 Z = true) (ws : List Jvm.Cond) (r0 : Addr) (h0 : Heap) (n0 : Nat) (Z0 : n0 ≤ h0.size) (F0 : Fld Z h0 r0 "com/example/orderd/orderd/provider/Notice" "sign" "Ljava/lang/String;" .null) :
    MetFree l (⟨"com/example/orderd/orderd/provider/Notice", "sign", "()Ljava/lang/String;"⟩ : MethodName) (head1 (Jvm.Cond.code (⟨"com/example/orderd/orderd/provider/Notice", "sign", "()Ljava/lang/String;"⟩ : MethodName) prog_26_method_14_code 1 (some (.object "java/lang/String")) :: ws) ({ frames := 0, cells := 0, slots := 0, locals := 0 } : Room)) (fun a U => a = #[(.ref r0)] ∧ Z.Warmed39 U.vm ∧ U.heap = h0) (fun _ _ _ _ _ => True) (fun _ U o U' => ∃ v L, o = .returned v ∧ Q21 Z r0 h0 n0 v U'.heap L ∧ FrameEnd U o U' L ({ frames := 0, cells := 0, slots := 0, locals := 0 } : Room).cells ({ frames := 0, cells := 0, slots := 0, locals := 0 } : Room).slots) := by
  refine MetFree.of_bodySF (plainFor_of_name own_pn4) hisR ?_
  intro p e s m args below meth c s₁ Bd hml0 hP hK
  obtain ⟨rfl, hZ, hh⟩ := hP
  have hx := Bd.exec
  have hby := Bd.bytes
  have hml : c.maxLocals = 1 := hml0
  have hown : s.vm.findClass "com/example/orderd/orderd/provider/Notice" = some m.cls := findClass_of_methodNamed Bd.named
  have hnm := (name_of_methodNamed Bd.named Bd.method).1
  have X0 : Stand p l e ({ frames := 0, cells := 0, slots := 0, locals := 0 } : Room) s m #[(.ref r0)] below meth c s₁ [] 0 0 := Stand.of_body Bd
  have e0 : s₁.heap = h0 := by rw [← hh, Bd.state]; rfl
  have N0 := Fr.nil n0
  show Good p e below (fun o U' => ∃ v L, o = .returned v ∧ Q21 Z r0 h0 n0 v U'.heap L ∧ FrameEnd s o U' L ({ frames := 0, cells := 0, slots := 0, locals := 0 } : Room).cells ({ frames := 0, cells := 0, slots := 0, locals := 0 } : Room).slots) _
  refine Good.back (S' := s₁.setTop (mkF m 0 #[.val (.ref r0)] [])) (fun t k => castTop (own_ef_21 m r0) k) ?_
  show Good p e below _ (s₁.setTop (mkF m 0 #[.val (.ref r0)] []))
  refine Good.back (fun _ k => XS.aloadN X0.here hx rfl (hb hby own_d21_0) rfl rfl k) ?_
  show Good p e below _ (s₁.setTop (mkF m 1 #[.val (.ref r0)] [(.ref r0)]))
  obtain ⟨T1, X1, e1, st1⟩ := getF X0 hx hZ hown (host := "") (Or.inl (hw _ (List.mem_of_getElem? (i := 96) rfl))) Via.refl e0 F0 (g := (mkF m 1 #[.val (.ref r0)] [(.ref r0)])) rfl rfl (hb hby own_d21_1)
  refine Good.back st1 ?_
  show Good p e below _ (T1.setTop (mkF m 4 #[.val (.ref r0)] [.null]))
  obtain ⟨fs2, hr2, hrun2, hended2, hW2, hsame2⟩ := X1.leave (v := some .null) (fun h => by rw [Bd.returns] at h; cases h)
  refine Good.done (retOut X1 hx Bd.returns rfl (Or.inr (Or.inr (Or.inr (Or.inr ⟨rfl, rfl, rfl⟩)))) (hb hby own_d21_4) hr2) hrun2 hended2 ⟨_, _, rfl, ?_, ⟨_, rfl⟩, hW2, hsame2.mono (by decide) (by decide)⟩
  show Q21 Z r0 h0 n0 _ T1.heap _
  rw [e1]
  exact ⟨rfl, N0, rfl⟩
theorem own_d23_0 : decode prog_26_method_16_code 0 = .ok (.aload_n 0, 1) := by decide +kernel
theorem own_d23_1 : decode prog_26_method_16_code 1 = .ok (.getfield 25, 3) := by decide +kernel
theorem own_d23_4 : decode prog_26_method_16_code 4 = .ok (.areturn, 1) := by decide +kernel
theorem own_ef_23 (m : MethodId) (x0 : Addr) : entryFrame m #[(.ref x0)] 1 = mkF m 0 #[.val (.ref x0)] [] := by first | (simp [entryFrame, mkF, argsToLocals, Value.category]; done) | rfl
def Q23 (Z : State) (r0 : Addr) (h0 : Heap) (n0 : Nat) (v : Option Value) (h : Heap) (L : List Loc) : Prop := v = some .null ∧ Fr n0 L ∧ h = h0
set_option maxRecDepth 65536 in
set_option maxHeartbeats 40000000 in
theorem rm23 (l : Launch) (Z : State) (a0 : Array Value) (hw : ∀ d ∈ tables_1, d.before a0 Z = true) (ws : List Jvm.Cond) (r0 : Addr) (h0 : Heap) (n0 : Nat) (Z0 : n0 ≤ h0.size) (F0 : Fld Z h0 r0 "com/example/orderd/orderd/provider/Notice" "rejection" "Lcom/example/orderd/orderd/order/Rejection;" .null) :
    MetFree l (⟨"com/example/orderd/orderd/provider/Notice", "rejection", "()Lcom/example/orderd/orderd/order/Rejection;"⟩ : MethodName) (head1 (Jvm.Cond.code (⟨"com/example/orderd/orderd/provider/Notice", "rejection", "()Lcom/example/orderd/orderd/order/Rejection;"⟩ : MethodName) prog_26_method_16_code 1 (some (.object "com/example/orderd/orderd/order/Rejection")) :: ws) ({ frames := 0, cells := 0, slots := 0, locals := 0 } : Room)) (fun a U => a = #[(.ref r0)] ∧ Z.Warmed39 U.vm ∧ U.heap = h0) (fun _ _ _ _ _ => True) (fun _ U o U' => ∃ v L, o = .returned v ∧ Q23 Z r0 h0 n0 v U'.heap L ∧ FrameEnd U o U' L ({ frames := 0, cells := 0, slots := 0, locals := 0 } : Room).cells ({ frames := 0, cells := 0, slots := 0, locals := 0 } : Room).slots) := by
  refine MetFree.of_bodySF (plainFor_of_name own_pn4) hisR ?_
  intro p e s m args below meth c s₁ Bd hml0 hP hK
  obtain ⟨rfl, hZ, hh⟩ := hP
  have hx := Bd.exec
  have hby := Bd.bytes
  have hml : c.maxLocals = 1 := hml0
  have hown : s.vm.findClass "com/example/orderd/orderd/provider/Notice" = some m.cls := findClass_of_methodNamed Bd.named
  have hnm := (name_of_methodNamed Bd.named Bd.method).1
  have X0 : Stand p l e ({ frames := 0, cells := 0, slots := 0, locals := 0 } : Room) s m #[(.ref r0)] below meth c s₁ [] 0 0 := Stand.of_body Bd
  have e0 : s₁.heap = h0 := by rw [← hh, Bd.state]; rfl
  have N0 := Fr.nil n0
  show Good p e below (fun o U' => ∃ v L, o = .returned v ∧ Q23 Z r0 h0 n0 v U'.heap L ∧ FrameEnd s o U' L ({ frames := 0, cells := 0, slots := 0, locals := 0 } : Room).cells ({ frames := 0, cells := 0, slots := 0, locals := 0 } : Room).slots) _
  refine Good.back (S' := s₁.setTop (mkF m 0 #[.val (.ref r0)] [])) (fun t k => castTop (own_ef_23 m r0) k) ?_
  show Good p e below _ (s₁.setTop (mkF m 0 #[.val (.ref r0)] []))
  refine Good.back (fun _ k => XS.aloadN X0.here hx rfl (hb hby own_d23_0) rfl rfl k) ?_
  show Good p e below _ (s₁.setTop (mkF m 1 #[.val (.ref r0)] [(.ref r0)]))
  obtain ⟨T1, X1, e1, st1⟩ := getF X0 hx hZ hown (host := "") (Or.inl (hw _ (List.mem_of_getElem? (i := 100) rfl))) Via.refl e0 F0 (g := (mkF m 1 #[.val (.ref r0)] [(.ref r0)])) rfl rfl (hb hby own_d23_1)
  refine Good.back st1 ?_
  show Good p e below _ (T1.setTop (mkF m 4 #[.val (.ref r0)] [.null]))
  obtain ⟨fs2, hr2, hrun2, hended2, hW2, hsame2⟩ := X1.leave (v := some .null) (fun h => by rw [Bd.returns] at h; cases h)
  refine Good.done (retOut X1 hx Bd.returns rfl (Or.inr (Or.inr (Or.inr (Or.inr ⟨rfl, rfl, rfl⟩)))) (hb hby own_d23_4) hr2) hrun2 hended2 ⟨_, _, rfl, ?_, ⟨_, rfl⟩, hW2, hsame2.mono (by decide) (by decide)⟩
  show Q23 Z r0 h0 n0 _ T1.heap _
  rw [e1]
  exact ⟨rfl, N0, rfl⟩
theorem own_d22_0 : decode prog_26_method_15_code 0 = .ok (.aload_n 0, 1) := by decide +kernel
theorem own_d22_1 : decode prog_26_method_15_code 1 = .ok (.getfield 21, 3) := by decide +kernel
theorem own_d22_4 : decode prog_26_method_15_code 4 = .ok (.areturn, 1) := by decide +kernel
theorem own_ef_22z (m : MethodId) (x0 : Addr) : entryFrame m #[(.ref x0)] 1 = mkF m 0 #[.val (.ref x0)] [] := by first | (simp [entryFrame, mkF, argsToLocals, Value.category]; done) | rfl
def Q22z (Z : State) (r0 : Addr) (h0 : Heap) (n0 : Nat) (v : Option Value) (h : Heap) (L : List Loc) : Prop := v = some .null ∧ Fr n0 L ∧ h = h0
set_option maxRecDepth 65536 in
set_option maxHeartbeats 40000000 in
theorem rm22z (l : Launch) (Z : State) (a0 : Array Value) (hw : ∀ d ∈ tables_1, d.before a0 Z = true) (ws : List Jvm.Cond) (r0 : Addr) (h0 : Heap) (n0 : Nat) (Z0 : n0 ≤ h0.size) (F0 : Fld Z h0 r0 "com/example/orderd/orderd/provider/Notice" "refusal" "Lcom/example/orderd/orderd/provider/Reply;" .null) :
    MetFree l (⟨"com/example/orderd/orderd/provider/Notice", "refusal", "()Lcom/example/orderd/orderd/provider/Reply;"⟩ : MethodName) (head1 (Jvm.Cond.code (⟨"com/example/orderd/orderd/provider/Notice", "refusal", "()Lcom/example/orderd/orderd/provider/Reply;"⟩ : MethodName) prog_26_method_15_code 1 (some (.object "com/example/orderd/orderd/provider/Reply")) :: ws) ({ frames := 0, cells := 0, slots := 0, locals := 0 } : Room)) (fun a U => a = #[(.ref r0)] ∧ Z.Warmed39 U.vm ∧ U.heap = h0) (fun _ _ _ _ _ => True) (fun _ U o U' => ∃ v L, o = .returned v ∧ Q22z Z r0 h0 n0 v U'.heap L ∧ FrameEnd U o U' L ({ frames := 0, cells := 0, slots := 0, locals := 0 } : Room).cells ({ frames := 0, cells := 0, slots := 0, locals := 0 } : Room).slots) := by
  refine MetFree.of_bodySF (plainFor_of_name own_pn4) hisR ?_
  intro p e s m args below meth c s₁ Bd hml0 hP hK
  obtain ⟨rfl, hZ, hh⟩ := hP
  have hx := Bd.exec
  have hby := Bd.bytes
  have hml : c.maxLocals = 1 := hml0
  have hown : s.vm.findClass "com/example/orderd/orderd/provider/Notice" = some m.cls := findClass_of_methodNamed Bd.named
  have hnm := (name_of_methodNamed Bd.named Bd.method).1
  have X0 : Stand p l e ({ frames := 0, cells := 0, slots := 0, locals := 0 } : Room) s m #[(.ref r0)] below meth c s₁ [] 0 0 := Stand.of_body Bd
  have e0 : s₁.heap = h0 := by rw [← hh, Bd.state]; rfl
  have N0 := Fr.nil n0
  show Good p e below (fun o U' => ∃ v L, o = .returned v ∧ Q22z Z r0 h0 n0 v U'.heap L ∧ FrameEnd s o U' L ({ frames := 0, cells := 0, slots := 0, locals := 0 } : Room).cells ({ frames := 0, cells := 0, slots := 0, locals := 0 } : Room).slots) _
  refine Good.back (S' := s₁.setTop (mkF m 0 #[.val (.ref r0)] [])) (fun t k => castTop (own_ef_22z m r0) k) ?_
  show Good p e below _ (s₁.setTop (mkF m 0 #[.val (.ref r0)] []))
  refine Good.back (fun _ k => XS.aloadN X0.here hx rfl (hb hby own_d22_0) rfl rfl k) ?_
  show Good p e below _ (s₁.setTop (mkF m 1 #[.val (.ref r0)] [(.ref r0)]))
  obtain ⟨T1, X1, e1, st1⟩ := getF X0 hx hZ hown (host := "") (Or.inl (hw _ (List.mem_of_getElem? (i := 98) rfl))) Via.refl e0 F0 (g := (mkF m 1 #[.val (.ref r0)] [(.ref r0)])) rfl rfl (hb hby own_d22_1)
  refine Good.back st1 ?_
  show Good p e below _ (T1.setTop (mkF m 4 #[.val (.ref r0)] [.null]))
  obtain ⟨fs2, hr2, hrun2, hended2, hW2, hsame2⟩ := X1.leave (v := some .null) (fun h => by rw [Bd.returns] at h; cases h)
  refine Good.done (retOut X1 hx Bd.returns rfl (Or.inr (Or.inr (Or.inr (Or.inr ⟨rfl, rfl, rfl⟩)))) (hb hby own_d22_4) hr2) hrun2 hended2 ⟨_, _, rfl, ?_, ⟨_, rfl⟩, hW2, hsame2.mono (by decide) (by decide)⟩
  show Q22z Z r0 h0 n0 _ T1.heap _
  rw [e1]
  exact ⟨rfl, N0, rfl⟩
theorem own_ef_22y (m : MethodId) (x0 : Addr) : entryFrame m #[(.ref x0)] 1 = mkF m 0 #[.val (.ref x0)] [] := by first | (simp [entryFrame, mkF, argsToLocals, Value.category]; done) | rfl
def Q22y (Z : State) (r0 : Addr) (u : Addr) (h0 : Heap) (n0 : Nat) (v : Option Value) (h : Heap) (L : List Loc) : Prop := v = some (.ref u) ∧ Fr n0 L ∧ h = h0
set_option maxRecDepth 65536 in
set_option maxHeartbeats 40000000 in
theorem rm22y (l : Launch) (Z : State) (a0 : Array Value) (hw : ∀ d ∈ tables_1, d.before a0 Z = true) (ws : List Jvm.Cond) (r0 : Addr) (u : Addr) (h0 : Heap) (n0 : Nat) (Z0 : n0 ≤ h0.size) (F0 : Fld Z h0 r0 "com/example/orderd/orderd/provider/Notice" "refusal" "Lcom/example/orderd/orderd/provider/Reply;" (.ref u)) :
    MetFree l (⟨"com/example/orderd/orderd/provider/Notice", "refusal", "()Lcom/example/orderd/orderd/provider/Reply;"⟩ : MethodName) (head1 (Jvm.Cond.code (⟨"com/example/orderd/orderd/provider/Notice", "refusal", "()Lcom/example/orderd/orderd/provider/Reply;"⟩ : MethodName) prog_26_method_15_code 1 (some (.object "com/example/orderd/orderd/provider/Reply")) :: ws) ({ frames := 0, cells := 0, slots := 0, locals := 0 } : Room)) (fun a U => a = #[(.ref r0)] ∧ Z.Warmed39 U.vm ∧ U.heap = h0) (fun _ _ _ _ _ => True) (fun _ U o U' => ∃ v L, o = .returned v ∧ Q22y Z r0 u h0 n0 v U'.heap L ∧ FrameEnd U o U' L ({ frames := 0, cells := 0, slots := 0, locals := 0 } : Room).cells ({ frames := 0, cells := 0, slots := 0, locals := 0 } : Room).slots) := by
  refine MetFree.of_bodySF (plainFor_of_name own_pn4) hisR ?_
  intro p e s m args below meth c s₁ Bd hml0 hP hK
  obtain ⟨rfl, hZ, hh⟩ := hP
  have hx := Bd.exec
  have hby := Bd.bytes
  have hml : c.maxLocals = 1 := hml0
  have hown : s.vm.findClass "com/example/orderd/orderd/provider/Notice" = some m.cls := findClass_of_methodNamed Bd.named
  have hnm := (name_of_methodNamed Bd.named Bd.method).1
  have X0 : Stand p l e ({ frames := 0, cells := 0, slots := 0, locals := 0 } : Room) s m #[(.ref r0)] below meth c s₁ [] 0 0 := Stand.of_body Bd
  have e0 : s₁.heap = h0 := by rw [← hh, Bd.state]; rfl
  have N0 := Fr.nil n0
  show Good p e below (fun o U' => ∃ v L, o = .returned v ∧ Q22y Z r0 u h0 n0 v U'.heap L ∧ FrameEnd s o U' L ({ frames := 0, cells := 0, slots := 0, locals := 0 } : Room).cells ({ frames := 0, cells := 0, slots := 0, locals := 0 } : Room).slots) _
  refine Good.back (S' := s₁.setTop (mkF m 0 #[.val (.ref r0)] [])) (fun t k => castTop (own_ef_22y m r0) k) ?_
  show Good p e below _ (s₁.setTop (mkF m 0 #[.val (.ref r0)] []))
  refine Good.back (fun _ k => XS.aloadN X0.here hx rfl (hb hby own_d22_0) rfl rfl k) ?_
  show Good p e below _ (s₁.setTop (mkF m 1 #[.val (.ref r0)] [(.ref r0)]))
  obtain ⟨T1, X1, e1, st1⟩ := getF X0 hx hZ hown (host := "") (Or.inl (hw _ (List.mem_of_getElem? (i := 98) rfl))) Via.refl e0 F0 (g := (mkF m 1 #[.val (.ref r0)] [(.ref r0)])) rfl rfl (hb hby own_d22_1)
  refine Good.back st1 ?_
  show Good p e below _ (T1.setTop (mkF m 4 #[.val (.ref r0)] [(.ref u)]))
  obtain ⟨fs2, hr2, hrun2, hended2, hW2, hsame2⟩ := X1.leave (v := some (.ref u)) (fun h => by rw [Bd.returns] at h; cases h)
  refine Good.done (retOut X1 hx Bd.returns rfl (Or.inr (Or.inr (Or.inr (Or.inr ⟨rfl, rfl, rfl⟩)))) (hb hby own_d22_4) hr2) hrun2 hended2 ⟨_, _, rfl, ?_, ⟨_, rfl⟩, hW2, hsame2.mono (by decide) (by decide)⟩
  show Q22y Z r0 u h0 n0 _ T1.heap _
  rw [e1]
  exact ⟨rfl, N0, rfl⟩
theorem own_d24_0 : decode prog_26_method_17_code 0 = .ok (.aload_n 0, 1) := by decide +kernel
theorem own_d24_1 : decode prog_26_method_17_code 1 = .ok (.getfield 29, 3) := by decide +kernel
theorem own_d24_4 : decode prog_26_method_17_code 4 = .ok (.areturn, 1) := by decide +kernel
theorem own_ef_24z (m : MethodId) (x0 : Addr) : entryFrame m #[(.ref x0)] 1 = mkF m 0 #[.val (.ref x0)] [] := by first | (simp [entryFrame, mkF, argsToLocals, Value.category]; done) | rfl
def Q24z (Z : State) (r0 : Addr) (h0 : Heap) (n0 : Nat) (v : Option Value) (h : Heap) (L : List Loc) : Prop := v = some .null ∧ Fr n0 L ∧ h = h0
set_option maxRecDepth 65536 in
set_option maxHeartbeats 40000000 in
theorem rm24z (l : Launch) (Z : State) (a0 : Array Value) (hw : ∀ d ∈ tables_1, d.before a0 Z = true) (ws : List Jvm.Cond) (r0 : Addr) (h0 : Heap) (n0 : Nat) (Z0 : n0 ≤ h0.size) (F0 : Fld Z h0 r0 "com/example/orderd/orderd/provider/Notice" "reason" "Ljava/lang/String;" .null) :
    MetFree l (⟨"com/example/orderd/orderd/provider/Notice", "reason", "()Ljava/lang/String;"⟩ : MethodName) (head1 (Jvm.Cond.code (⟨"com/example/orderd/orderd/provider/Notice", "reason", "()Ljava/lang/String;"⟩ : MethodName) prog_26_method_17_code 1 (some (.object "java/lang/String")) :: ws) ({ frames := 0, cells := 0, slots := 0, locals := 0 } : Room)) (fun a U => a = #[(.ref r0)] ∧ Z.Warmed39 U.vm ∧ U.heap = h0) (fun _ _ _ _ _ => True) (fun _ U o U' => ∃ v L, o = .returned v ∧ Q24z Z r0 h0 n0 v U'.heap L ∧ FrameEnd U o U' L ({ frames := 0, cells := 0, slots := 0, locals := 0 } : Room).cells ({ frames := 0, cells := 0, slots := 0, locals := 0 } : Room).slots) := by
  refine MetFree.of_bodySF (plainFor_of_name own_pn4) hisR ?_
  intro p e s m args below meth c s₁ Bd hml0 hP hK
  obtain ⟨rfl, hZ, hh⟩ := hP
  have hx := Bd.exec
  have hby := Bd.bytes
  have hml : c.maxLocals = 1 := hml0
  have hown : s.vm.findClass "com/example/orderd/orderd/provider/Notice" = some m.cls := findClass_of_methodNamed Bd.named
  have hnm := (name_of_methodNamed Bd.named Bd.method).1
  have X0 : Stand p l e ({ frames := 0, cells := 0, slots := 0, locals := 0 } : Room) s m #[(.ref r0)] below meth c s₁ [] 0 0 := Stand.of_body Bd
  have e0 : s₁.heap = h0 := by rw [← hh, Bd.state]; rfl
  have N0 := Fr.nil n0
  show Good p e below (fun o U' => ∃ v L, o = .returned v ∧ Q24z Z r0 h0 n0 v U'.heap L ∧ FrameEnd s o U' L ({ frames := 0, cells := 0, slots := 0, locals := 0 } : Room).cells ({ frames := 0, cells := 0, slots := 0, locals := 0 } : Room).slots) _
  refine Good.back (S' := s₁.setTop (mkF m 0 #[.val (.ref r0)] [])) (fun t k => castTop (own_ef_24z m r0) k) ?_
  show Good p e below _ (s₁.setTop (mkF m 0 #[.val (.ref r0)] []))
  refine Good.back (fun _ k => XS.aloadN X0.here hx rfl (hb hby own_d24_0) rfl rfl k) ?_
  show Good p e below _ (s₁.setTop (mkF m 1 #[.val (.ref r0)] [(.ref r0)]))
  obtain ⟨T1, X1, e1, st1⟩ := getF X0 hx hZ hown (host := "") (Or.inl (hw _ (List.mem_of_getElem? (i := 102) rfl))) Via.refl e0 F0 (g := (mkF m 1 #[.val (.ref r0)] [(.ref r0)])) rfl rfl (hb hby own_d24_1)
  refine Good.back st1 ?_
  show Good p e below _ (T1.setTop (mkF m 4 #[.val (.ref r0)] [.null]))
  obtain ⟨fs2, hr2, hrun2, hended2, hW2, hsame2⟩ := X1.leave (v := some .null) (fun h => by rw [Bd.returns] at h; cases h)
  refine Good.done (retOut X1 hx Bd.returns rfl (Or.inr (Or.inr (Or.inr (Or.inr ⟨rfl, rfl, rfl⟩)))) (hb hby own_d24_4) hr2) hrun2 hended2 ⟨_, _, rfl, ?_, ⟨_, rfl⟩, hW2, hsame2.mono (by decide) (by decide)⟩
  show Q24z Z r0 h0 n0 _ T1.heap _
  rw [e1]
  exact ⟨rfl, N0, rfl⟩
theorem own_ef_24y (m : MethodId) (x0 : Addr) : entryFrame m #[(.ref x0)] 1 = mkF m 0 #[.val (.ref x0)] [] := by first | (simp [entryFrame, mkF, argsToLocals, Value.category]; done) | rfl
def Q24y (Z : State) (r0 : Addr) (u : Addr) (h0 : Heap) (n0 : Nat) (v : Option Value) (h : Heap) (L : List Loc) : Prop := v = some (.ref u) ∧ Fr n0 L ∧ h = h0
set_option maxRecDepth 65536 in
set_option maxHeartbeats 40000000 in
theorem rm24y (l : Launch) (Z : State) (a0 : Array Value) (hw : ∀ d ∈ tables_1, d.before a0 Z = true) (ws : List Jvm.Cond) (r0 : Addr) (u : Addr) (h0 : Heap) (n0 : Nat) (Z0 : n0 ≤ h0.size) (F0 : Fld Z h0 r0 "com/example/orderd/orderd/provider/Notice" "reason" "Ljava/lang/String;" (.ref u)) :
    MetFree l (⟨"com/example/orderd/orderd/provider/Notice", "reason", "()Ljava/lang/String;"⟩ : MethodName) (head1 (Jvm.Cond.code (⟨"com/example/orderd/orderd/provider/Notice", "reason", "()Ljava/lang/String;"⟩ : MethodName) prog_26_method_17_code 1 (some (.object "java/lang/String")) :: ws) ({ frames := 0, cells := 0, slots := 0, locals := 0 } : Room)) (fun a U => a = #[(.ref r0)] ∧ Z.Warmed39 U.vm ∧ U.heap = h0) (fun _ _ _ _ _ => True) (fun _ U o U' => ∃ v L, o = .returned v ∧ Q24y Z r0 u h0 n0 v U'.heap L ∧ FrameEnd U o U' L ({ frames := 0, cells := 0, slots := 0, locals := 0 } : Room).cells ({ frames := 0, cells := 0, slots := 0, locals := 0 } : Room).slots) := by
  refine MetFree.of_bodySF (plainFor_of_name own_pn4) hisR ?_
  intro p e s m args below meth c s₁ Bd hml0 hP hK
  obtain ⟨rfl, hZ, hh⟩ := hP
  have hx := Bd.exec
  have hby := Bd.bytes
  have hml : c.maxLocals = 1 := hml0
  have hown : s.vm.findClass "com/example/orderd/orderd/provider/Notice" = some m.cls := findClass_of_methodNamed Bd.named
  have hnm := (name_of_methodNamed Bd.named Bd.method).1
  have X0 : Stand p l e ({ frames := 0, cells := 0, slots := 0, locals := 0 } : Room) s m #[(.ref r0)] below meth c s₁ [] 0 0 := Stand.of_body Bd
  have e0 : s₁.heap = h0 := by rw [← hh, Bd.state]; rfl
  have N0 := Fr.nil n0
  show Good p e below (fun o U' => ∃ v L, o = .returned v ∧ Q24y Z r0 u h0 n0 v U'.heap L ∧ FrameEnd s o U' L ({ frames := 0, cells := 0, slots := 0, locals := 0 } : Room).cells ({ frames := 0, cells := 0, slots := 0, locals := 0 } : Room).slots) _
  refine Good.back (S' := s₁.setTop (mkF m 0 #[.val (.ref r0)] [])) (fun t k => castTop (own_ef_24y m r0) k) ?_
  show Good p e below _ (s₁.setTop (mkF m 0 #[.val (.ref r0)] []))
  refine Good.back (fun _ k => XS.aloadN X0.here hx rfl (hb hby own_d24_0) rfl rfl k) ?_
  show Good p e below _ (s₁.setTop (mkF m 1 #[.val (.ref r0)] [(.ref r0)]))
  obtain ⟨T1, X1, e1, st1⟩ := getF X0 hx hZ hown (host := "") (Or.inl (hw _ (List.mem_of_getElem? (i := 102) rfl))) Via.refl e0 F0 (g := (mkF m 1 #[.val (.ref r0)] [(.ref r0)])) rfl rfl (hb hby own_d24_1)
  refine Good.back st1 ?_
  show Good p e below _ (T1.setTop (mkF m 4 #[.val (.ref r0)] [(.ref u)]))
  obtain ⟨fs2, hr2, hrun2, hended2, hW2, hsame2⟩ := X1.leave (v := some (.ref u)) (fun h => by rw [Bd.returns] at h; cases h)
  refine Good.done (retOut X1 hx Bd.returns rfl (Or.inr (Or.inr (Or.inr (Or.inr ⟨rfl, rfl, rfl⟩)))) (hb hby own_d24_4) hr2) hrun2 hended2 ⟨_, _, rfl, ?_, ⟨_, rfl⟩, hW2, hsame2.mono (by decide) (by decide)⟩
  show Q24y Z r0 u h0 n0 _ T1.heap _
  rw [e1]
  exact ⟨rfl, N0, rfl⟩
theorem own_pd301 : parseMethodDescriptor "(Lcom/example/orderd/orderd/provider/Reply;Ljava/lang/String;)Lcom/example/orderd/orderd/provider/Notice;" = some ⟨[(.object "com/example/orderd/orderd/provider/Reply"), (.object "java/lang/String")], some (.object "com/example/orderd/orderd/provider/Notice")⟩ := by decide +kernel
theorem own_pd302 : parseMethodDescriptor "()Z" = some ⟨[], some .boolean⟩ := by decide +kernel
theorem own_pd303 : parseMethodDescriptor "()Lcom/example/orderd/orderd/order/Order;" = some ⟨[], some (.object "com/example/orderd/orderd/order/Order")⟩ := by decide +kernel
theorem own_pd304 : parseMethodDescriptor "()Ljava/lang/String;" = some ⟨[], some (.object "java/lang/String")⟩ := by decide +kernel
theorem own_pd305 : parseMethodDescriptor "()Lcom/example/orderd/orderd/provider/Reply;" = some ⟨[], some (.object "com/example/orderd/orderd/provider/Reply")⟩ := by decide +kernel
theorem own_pd306 : parseMethodDescriptor "()Lcom/example/orderd/orderd/order/Rejection;" = some ⟨[], some (.object "com/example/orderd/orderd/order/Rejection")⟩ := by decide +kernel
theorem own_pd307 : parseMethodDescriptor "([C)V" = some ⟨[(.array .char)], none⟩ := by decide +kernel
theorem own_pd308 : parseMethodDescriptor "(ILjava/lang/String;Ljava/lang/String;)V" = some ⟨[.int, (.object "java/lang/String"), (.object "java/lang/String")], none⟩ := by decide +kernel
theorem own_pn5 : plainName "com/example/orderd/orderd/provider/NoticeBadRequestPinLaw" = true := by first | (simp [plainName, overriddenIn]; done) | decide +kernel
theorem own_ef_0 (m : MethodId) (x0 : Int32) (x1 : Int32) (x2 : Int32) (x3 : Int32) : entryFrame m #[(.int x0), (.int x1), (.int x2), (.int x3)] maxLocals = mkF m 0 #[.val (.int x0), .val (.int x1), .val (.int x2), .val (.int x3), .unset, .unset, .unset, .unset, .unset, .unset, .unset] [] := by first | (simp [entryFrame, mkF, argsToLocals, Value.category, maxLocals]; done) | rfl
def Q0 (Z : State) (p0 : Int32) (p1 : Int32) (p2 : Int32) (p3 : Int32) (u8 : Addr) (cs : Int32) (h0 : Heap) (n0 : Nat) (v : Option Value) (h : Heap) (L : List Loc) : Prop := v = some (.int 1) ∧ Fr n0 L
set_option maxRecDepth 65536 in
set_option maxHeartbeats 40000000 in
theorem rm0 (l : Launch) (Z : State) (a0 : Array Value) (hw : ∀ d ∈ tables_1, d.before a0 Z = true) (ws : List Jvm.Cond) (p0 : Int32) (p1 : Int32) (p2 : Int32) (p3 : Int32) (u8 : Addr) (cs : Int32) (h0 : Heap) (n0 : Nat) (Z0 : n0 ≤ h0.size) (S_u8 : Sta Z h0 "java/nio/charset/StandardCharsets" "UTF_8" "Ljava/nio/charset/Charset;" (.ref u8)) (S_in : Sta Z h0 "sun/nio/cs/UTF_8" "INSTANCE" "Lsun/nio/cs/UTF_8;" (.ref u8)) (S_cs : Sta Z h0 "java/lang/String" "COMPACT_STRINGS" "Z" (.int cs)) (hcs : ¬ (cs = (0 : Int32))) :
    MetFree l x (head1 (Jvm.Cond.code x code maxLocals ret :: ws) room_1) (fun a U => a = #[(.int p0), (.int p1), (.int p2), (.int p3)] ∧ Z.Warmed39 U.vm ∧ U.heap = h0) (fun _ _ _ _ _ => True) (fun _ U o U' => ∃ v L, o = .returned v ∧ Q0 Z p0 p1 p2 p3 u8 cs h0 n0 v U'.heap L ∧ ReturnedEndW U o U' L 32 1152) := by
  refine MetFree.of_bodySF (plainFor_of_name own_pn5) hisR ?_
  intro p e s m args below meth c s₁ Bd hml0 hP hK
  obtain ⟨rfl, hZ, hh⟩ := hP
  have hx := Bd.exec
  have hby := Bd.bytes
  have hml : c.maxLocals = 11 := hml0
  have hown : s.vm.findClass "com/example/orderd/orderd/provider/NoticeBadRequestPinLaw" = some m.cls := findClass_of_methodNamed Bd.named
  have hnm := (name_of_methodNamed Bd.named Bd.method).1
  have X0 : Stand p l e room_1 s m #[(.int p0), (.int p1), (.int p2), (.int p3)] below meth c s₁ [] 0 0 := Stand.of_body Bd
  have e0 : s₁.heap = h0 := by rw [← hh, Bd.state]; rfl
  have N0 := Fr.nil n0
  have X0c : Stand p l e room_1 (s.setVm s.vm) m #[(.int p0), (.int p1), (.int p2), (.int p3)] below meth c s₁ [] 0 0 := X0
  have hS0 : s.Since s.vm 0 := (State.WarmedH.refl s).since 0
  have hk0 : 0 ≤ h0.size := Nat.zero_le _
  have hZ0 : Z.Warmed39 (s.setVm s.vm).vm := hZ
  have hown0 : (s.setVm s.vm).vm.findClass "com/example/orderd/orderd/provider/NoticeBadRequestPinLaw" = some m.cls := hown
  show Good p e below (fun o U' => ∃ v L, o = .returned v ∧ Q0 Z p0 p1 p2 p3 u8 cs h0 n0 v U'.heap L ∧ ReturnedEndW s o U' L 32 1152) _
  refine Good.back (S' := s₁.setTop (mkF m 0 #[.val (.int p0), .val (.int p1), .val (.int p2), .val (.int p3), .unset, .unset, .unset, .unset, .unset, .unset, .unset] [])) (fun t k => castTop (own_ef_0 m p0 p1 p2 p3) k) ?_
  show Good p e below _ (s₁.setTop (mkF m 0 #[.val (.int p0), .val (.int p1), .val (.int p2), .val (.int p3), .unset, .unset, .unset, .unset, .unset, .unset, .unset] []))
  refine Good.back (fun _ k => XS.iloadN X0c.here hx rfl (hb hby at_0) rfl k) ?_
  show Good p e below _ (s₁.setTop (mkF m 1 #[.val (.int p0), .val (.int p1), .val (.int p2), .val (.int p3), .unset, .unset, .unset, .unset, .unset, .unset, .unset] [(.int p3)]))
  refine Good.back (fun _ k => XS.iconst X0c.here hx rfl (hb hby at_1) k) ?_
  show Good p e below _ (s₁.setTop (mkF m 2 #[.val (.int p0), .val (.int p1), .val (.int p2), .val (.int p3), .unset, .unset, .unset, .unset, .unset, .unset, .unset] [(.int (1 : Int32)), (.int p3)]))
  refine Good.back (fun _ k => XS.iand X0c.here hx rfl (hb hby at_2) rfl k) ?_
  show Good p e below _ (s₁.setTop (mkF m 3 #[.val (.int p0), .val (.int p1), .val (.int p2), .val (.int p3), .unset, .unset, .unset, .unset, .unset, .unset, .unset] [(.int (p3 &&& (1 : Int32)))]))
  by_cases hc3_1 : (p3 &&& (1 : Int32)) = (0 : Int32)
  · refine Good.back (fun _ k => XS.ifYes X0c.here hx rfl (pc0 := 3) (pc' := 10) rfl (hb hby at_3) rfl ((if0 _ _).trans (teq hc3_1).1) (by decide) (by decide) k) ?_
    show Good p e below _ (s₁.setTop (mkF m 10 #[.val (.int p0), .val (.int p1), .val (.int p2), .val (.int p3), .unset, .unset, .unset, .unset, .unset, .unset, .unset] []))
    refine Good.back (fun _ k => XS.iconst X0c.here hx rfl (hb hby at_10) k) ?_
    show Good p e below _ (s₁.setTop (mkF m 11 #[.val (.int p0), .val (.int p1), .val (.int p2), .val (.int p3), .unset, .unset, .unset, .unset, .unset, .unset, .unset] [(.int (0 : Int32))]))
    refine Good.back (fun _ k => XS.istore X0c.here hx rfl (hb hby at_11) rfl (l' := #[.val (.int p0), .val (.int p1), .val (.int p2), .val (.int p3), .val (.int (0 : Int32)), .unset, .unset, .unset, .unset, .unset, .unset]) rfl k) ?_
    show Good p e below _ (s₁.setTop (mkF m 13 #[.val (.int p0), .val (.int p1), .val (.int p2), .val (.int p3), .val (.int (0 : Int32)), .unset, .unset, .unset, .unset, .unset, .unset] []))
    refine Good.back (fun _ k => XS.iloadN X0c.here hx rfl (hb hby at_13) rfl k) ?_
    show Good p e below _ (s₁.setTop (mkF m 14 #[.val (.int p0), .val (.int p1), .val (.int p2), .val (.int p3), .val (.int (0 : Int32)), .unset, .unset, .unset, .unset, .unset, .unset] [(.int p3)]))
    refine Good.back (fun _ k => XS.iconst X0c.here hx rfl (hb hby at_14) k) ?_
    show Good p e below _ (s₁.setTop (mkF m 15 #[.val (.int p0), .val (.int p1), .val (.int p2), .val (.int p3), .val (.int (0 : Int32)), .unset, .unset, .unset, .unset, .unset, .unset] [(.int (2 : Int32)), (.int p3)]))
    refine Good.back (fun _ k => XS.iand X0c.here hx rfl (hb hby at_15) rfl k) ?_
    show Good p e below _ (s₁.setTop (mkF m 16 #[.val (.int p0), .val (.int p1), .val (.int p2), .val (.int p3), .val (.int (0 : Int32)), .unset, .unset, .unset, .unset, .unset, .unset] [(.int (p3 &&& (2 : Int32)))]))
    by_cases hc16_2 : (p3 &&& (2 : Int32)) = (0 : Int32)
    · refine Good.back (fun _ k => XS.ifYes X0c.here hx rfl (pc0 := 16) (pc' := 23) rfl (hb hby at_16) rfl ((if0 _ _).trans (teq hc16_2).1) (by decide) (by decide) k) ?_
      show Good p e below _ (s₁.setTop (mkF m 23 #[.val (.int p0), .val (.int p1), .val (.int p2), .val (.int p3), .val (.int (0 : Int32)), .unset, .unset, .unset, .unset, .unset, .unset] []))
      refine Good.back (fun _ k => XS.iconst X0c.here hx rfl (hb hby at_23) k) ?_
      show Good p e below _ (s₁.setTop (mkF m 24 #[.val (.int p0), .val (.int p1), .val (.int p2), .val (.int p3), .val (.int (0 : Int32)), .unset, .unset, .unset, .unset, .unset, .unset] [(.int (0 : Int32))]))
      refine Good.back (fun _ k => XS.istore X0c.here hx rfl (hb hby at_24) rfl (l' := #[.val (.int p0), .val (.int p1), .val (.int p2), .val (.int p3), .val (.int (0 : Int32)), .val (.int (0 : Int32)), .unset, .unset, .unset, .unset, .unset]) rfl k) ?_
      show Good p e below _ (s₁.setTop (mkF m 26 #[.val (.int p0), .val (.int p1), .val (.int p2), .val (.int p3), .val (.int (0 : Int32)), .val (.int (0 : Int32)), .unset, .unset, .unset, .unset, .unset] []))
      refine Good.back (fun _ k => XS.iconst X0c.here hx rfl (hb hby at_26) k) ?_
      show Good p e below _ (s₁.setTop (mkF m 27 #[.val (.int p0), .val (.int p1), .val (.int p2), .val (.int p3), .val (.int (0 : Int32)), .val (.int (0 : Int32)), .unset, .unset, .unset, .unset, .unset] [(.int (1 : Int32))]))
      obtain ⟨T3, h3, k3, X3, e3, E3, A3, st3⟩ := newP X0c hx hZ0 (hw _ (List.mem_of_getElem? (i := 0) rfl)) e0 (g := (mkF m 27 #[.val (.int p0), .val (.int p1), .val (.int p2), .val (.int p3), .val (.int (0 : Int32)), .val (.int (0 : Int32)), .unset, .unset, .unset, .unset, .unset] [(.int (1 : Int32))])) rfl (hb hby at_27) rfl (by decide) (cap := 1) (by decide) (by decide) (by decide) (by decide)
      obtain ⟨b3, g3⟩ : ∃ z, z = h0.size := ⟨_, rfl⟩
      rw [← g3] at A3 st3
      refine Good.back st3 ?_
      have g_b3 : n0 ≤ b3 := Nat.le_trans Z0 (Nat.le_of_eq g3.symm)
      have Z4 : n0 ≤ h3.size := Nat.le_trans Z0 E3.1
      have hk5 := Nat.le_trans hk0 E3.1
      have f_6 : Arv Z h3 b3 k3 .char (1 : Int32) [(.int (0 : Int32))] (.int (0 : Int32)) := (Arv.new A3 (by decide)).pad (pad_rep [] (.int (0 : Int32)) 1)
      show Good p e below _ (T3.setTop (mkF m 29 #[.val (.int p0), .val (.int p1), .val (.int p2), .val (.int p3), .val (.int (0 : Int32)), .val (.int (0 : Int32)), .unset, .unset, .unset, .unset, .unset] [(.ref b3)]))
      refine Good.back (fun _ k => XS.dup X3.here hx rfl (hb hby at_29) rfl rfl k) ?_
      show Good p e below _ (T3.setTop (mkF m 30 #[.val (.int p0), .val (.int p1), .val (.int p2), .val (.int p3), .val (.int (0 : Int32)), .val (.int (0 : Int32)), .unset, .unset, .unset, .unset, .unset] [(.ref b3), (.ref b3)]))
      refine Good.back (fun _ k => XS.iconst X3.here hx rfl (hb hby at_30) k) ?_
      show Good p e below _ (T3.setTop (mkF m 31 #[.val (.int p0), .val (.int p1), .val (.int p2), .val (.int p3), .val (.int (0 : Int32)), .val (.int (0 : Int32)), .unset, .unset, .unset, .unset, .unset] [(.int (0 : Int32)), (.ref b3), (.ref b3)]))
      refine Good.back (fun _ k => XS.iloadN X3.here hx rfl (hb hby at_31) rfl k) ?_
      show Good p e below _ (T3.setTop (mkF m 32 #[.val (.int p0), .val (.int p1), .val (.int p2), .val (.int p3), .val (.int (0 : Int32)), .val (.int (0 : Int32)), .unset, .unset, .unset, .unset, .unset] [(.int p2), (.int (0 : Int32)), (.ref b3), (.ref b3)]))
      refine Good.back (fun _ k => XS.sipush X3.here hx rfl (hb hby at_32) k) ?_
      show Good p e below _ (T3.setTop (mkF m 35 #[.val (.int p0), .val (.int p1), .val (.int p2), .val (.int p3), .val (.int (0 : Int32)), .val (.int (0 : Int32)), .unset, .unset, .unset, .unset, .unset] [(.int (255 : Int32)), (.int p2), (.int (0 : Int32)), (.ref b3), (.ref b3)]))
      refine Good.back (fun _ k => XS.iand X3.here hx rfl (hb hby at_35) rfl k) ?_
      show Good p e below _ (T3.setTop (mkF m 36 #[.val (.int p0), .val (.int p1), .val (.int p2), .val (.int p3), .val (.int (0 : Int32)), .val (.int (0 : Int32)), .unset, .unset, .unset, .unset, .unset] [(.int (p2 &&& (255 : Int32))), (.int (0 : Int32)), (.ref b3), (.ref b3)]))
      refine Good.back (fun _ k => XS.i2c X3.here hx rfl (hb hby at_36) rfl k) ?_
      show Good p e below _ (T3.setTop (mkF m 37 #[.val (.int p0), .val (.int p1), .val (.int p2), .val (.int p3), .val (.int (0 : Int32)), .val (.int (0 : Int32)), .unset, .unset, .unset, .unset, .unset] [(.int ((p2 &&& (255 : Int32)).toUInt32.toUInt16.toUInt32.toInt32)), (.int (0 : Int32)), (.ref b3), (.ref b3)]))
      have fc7 := f_6
      obtain ⟨cl7, Ar7, qk7, S7, N7', H7, G7⟩ := fc7
      have hin7 : ¬ ((0 : Int32) < 0 ∨ cl7.slots.size ≤ ((0 : Int32)).toNatClampNeg) := inb_of S7 ⟨by decide, by decide⟩
      obtain ⟨T7, h7, X7, e7, W7, st7⟩ := stC X3 hx hZ0 e3 Ar7 (j := (0 : Int32)) hin7 (g := (mkF m 37 #[.val (.int p0), .val (.int p1), .val (.int p2), .val (.int p3), .val (.int (0 : Int32)), .val (.int (0 : Int32)), .unset, .unset, .unset, .unset, .unset] [(.int ((p2 &&& (255 : Int32)).toUInt32.toUInt16.toUInt32.toInt32)), (.int (0 : Int32)), (.ref b3), (.ref b3)])) rfl rfl (hb hby at_37)
      refine Good.back st7 ?_
      have f_8 : Arv Z h7 b3 k3 .char (1 : Int32) [(.int (nar .char ((p2 &&& (255 : Int32)).toUInt32.toUInt16.toUInt32.toInt32)))] (.int (0 : Int32)) := Arv.set Ar7 qk7 S7 N7' H7 G7 (fits_nar_char _) W7 0 rfl (Nat.le_of_ble_eq_true rfl)
      have N7 := Fr.snoc X7 N0 g_b3
      have Z9 : n0 ≤ h7.size := Nat.le_trans Z4 (Keep.of_wr W7).1
      have hk10 := Nat.le_trans hk5 (Keep.of_wr W7).1
      show Good p e below _ (T7.setTop (mkF m 38 #[.val (.int p0), .val (.int p1), .val (.int p2), .val (.int p3), .val (.int (0 : Int32)), .val (.int (0 : Int32)), .unset, .unset, .unset, .unset, .unset] [(.ref b3)]))
      refine Good.back (fun _ k => XS.astore X7.here hx rfl (hb hby at_38) rfl rfl (l' := #[.val (.int p0), .val (.int p1), .val (.int p2), .val (.int p3), .val (.int (0 : Int32)), .val (.int (0 : Int32)), .val (.ref b3), .unset, .unset, .unset, .unset]) rfl k) ?_
      show Good p e below _ (T7.setTop (mkF m 40 #[.val (.int p0), .val (.int p1), .val (.int p2), .val (.int p3), .val (.int (0 : Int32)), .val (.int (0 : Int32)), .val (.ref b3), .unset, .unset, .unset, .unset] []))
      refine Good.back (fun _ k => XS.iconst X7.here hx rfl (hb hby at_40) k) ?_
      show Good p e below _ (T7.setTop (mkF m 41 #[.val (.int p0), .val (.int p1), .val (.int p2), .val (.int p3), .val (.int (0 : Int32)), .val (.int (0 : Int32)), .val (.ref b3), .unset, .unset, .unset, .unset] [(.int (2 : Int32))]))
      obtain ⟨T11, h11, k11, X11, e11, E11, A11, st11⟩ := newP X7 hx hZ0 (hw _ (List.mem_of_getElem? (i := 0) rfl)) e7 (g := (mkF m 41 #[.val (.int p0), .val (.int p1), .val (.int p2), .val (.int p3), .val (.int (0 : Int32)), .val (.int (0 : Int32)), .val (.ref b3), .unset, .unset, .unset, .unset] [(.int (2 : Int32))])) rfl (hb hby at_41) rfl (by decide) (cap := 2) (by decide) (by decide) (by decide) (by decide)
      obtain ⟨b11, g11⟩ : ∃ z, z = h7.size := ⟨_, rfl⟩
      rw [← g11] at A11 st11
      refine Good.back st11 ?_
      have g_b11 : n0 ≤ b11 := Nat.le_trans Z9 (Nat.le_of_eq g11.symm)
      have Z12 : n0 ≤ h11.size := Nat.le_trans Z9 E11.1
      have hk13 := Nat.le_trans hk10 E11.1
      have f_14 : Arv Z h11 b11 k11 .char (2 : Int32) [(.int (0 : Int32)), (.int (0 : Int32))] (.int (0 : Int32)) := (Arv.new A11 (by decide)).pad (pad_rep [] (.int (0 : Int32)) 2)
      show Good p e below _ (T11.setTop (mkF m 43 #[.val (.int p0), .val (.int p1), .val (.int p2), .val (.int p3), .val (.int (0 : Int32)), .val (.int (0 : Int32)), .val (.ref b3), .unset, .unset, .unset, .unset] [(.ref b11)]))
      refine Good.back (fun _ k => XS.dup X11.here hx rfl (hb hby at_43) rfl rfl k) ?_
      show Good p e below _ (T11.setTop (mkF m 44 #[.val (.int p0), .val (.int p1), .val (.int p2), .val (.int p3), .val (.int (0 : Int32)), .val (.int (0 : Int32)), .val (.ref b3), .unset, .unset, .unset, .unset] [(.ref b11), (.ref b11)]))
      refine Good.back (fun _ k => XS.iconst X11.here hx rfl (hb hby at_44) k) ?_
      show Good p e below _ (T11.setTop (mkF m 45 #[.val (.int p0), .val (.int p1), .val (.int p2), .val (.int p3), .val (.int (0 : Int32)), .val (.int (0 : Int32)), .val (.ref b3), .unset, .unset, .unset, .unset] [(.int (0 : Int32)), (.ref b11), (.ref b11)]))
      refine Good.back (fun _ k => XS.iloadN X11.here hx rfl (hb hby at_45) rfl k) ?_
      show Good p e below _ (T11.setTop (mkF m 46 #[.val (.int p0), .val (.int p1), .val (.int p2), .val (.int p3), .val (.int (0 : Int32)), .val (.int (0 : Int32)), .val (.ref b3), .unset, .unset, .unset, .unset] [(.int p1), (.int (0 : Int32)), (.ref b11), (.ref b11)]))
      refine Good.back (fun _ k => XS.sipush X11.here hx rfl (hb hby at_46) k) ?_
      show Good p e below _ (T11.setTop (mkF m 49 #[.val (.int p0), .val (.int p1), .val (.int p2), .val (.int p3), .val (.int (0 : Int32)), .val (.int (0 : Int32)), .val (.ref b3), .unset, .unset, .unset, .unset] [(.int (255 : Int32)), (.int p1), (.int (0 : Int32)), (.ref b11), (.ref b11)]))
      refine Good.back (fun _ k => XS.iand X11.here hx rfl (hb hby at_49) rfl k) ?_
      show Good p e below _ (T11.setTop (mkF m 50 #[.val (.int p0), .val (.int p1), .val (.int p2), .val (.int p3), .val (.int (0 : Int32)), .val (.int (0 : Int32)), .val (.ref b3), .unset, .unset, .unset, .unset] [(.int (p1 &&& (255 : Int32))), (.int (0 : Int32)), (.ref b11), (.ref b11)]))
      refine Good.back (fun _ k => XS.i2c X11.here hx rfl (hb hby at_50) rfl k) ?_
      show Good p e below _ (T11.setTop (mkF m 51 #[.val (.int p0), .val (.int p1), .val (.int p2), .val (.int p3), .val (.int (0 : Int32)), .val (.int (0 : Int32)), .val (.ref b3), .unset, .unset, .unset, .unset] [(.int ((p1 &&& (255 : Int32)).toUInt32.toUInt16.toUInt32.toInt32)), (.int (0 : Int32)), (.ref b11), (.ref b11)]))
      have fc15 := f_14
      obtain ⟨cl15, Ar15, qk15, S15, N15', H15, G15⟩ := fc15
      have hin15 : ¬ ((0 : Int32) < 0 ∨ cl15.slots.size ≤ ((0 : Int32)).toNatClampNeg) := inb_of S15 ⟨by decide, by decide⟩
      obtain ⟨T15, h15, X15, e15, W15, st15⟩ := stC X11 hx hZ0 e11 Ar15 (j := (0 : Int32)) hin15 (g := (mkF m 51 #[.val (.int p0), .val (.int p1), .val (.int p2), .val (.int p3), .val (.int (0 : Int32)), .val (.int (0 : Int32)), .val (.ref b3), .unset, .unset, .unset, .unset] [(.int ((p1 &&& (255 : Int32)).toUInt32.toUInt16.toUInt32.toInt32)), (.int (0 : Int32)), (.ref b11), (.ref b11)])) rfl rfl (hb hby at_51)
      refine Good.back st15 ?_
      have f_16 : Arv Z h15 b11 k11 .char (2 : Int32) [(.int (nar .char ((p1 &&& (255 : Int32)).toUInt32.toUInt16.toUInt32.toInt32))), (.int (0 : Int32))] (.int (0 : Int32)) := Arv.set Ar15 qk15 S15 N15' H15 G15 (fits_nar_char _) W15 0 rfl (Nat.le_of_ble_eq_true rfl)
      have N15 := Fr.snoc X15 N7 g_b11
      have Z17 : n0 ≤ h15.size := Nat.le_trans Z12 (Keep.of_wr W15).1
      have hk18 := Nat.le_trans hk13 (Keep.of_wr W15).1
      show Good p e below _ (T15.setTop (mkF m 52 #[.val (.int p0), .val (.int p1), .val (.int p2), .val (.int p3), .val (.int (0 : Int32)), .val (.int (0 : Int32)), .val (.ref b3), .unset, .unset, .unset, .unset] [(.ref b11)]))
      refine Good.back (fun _ k => XS.dup X15.here hx rfl (hb hby at_52) rfl rfl k) ?_
      show Good p e below _ (T15.setTop (mkF m 53 #[.val (.int p0), .val (.int p1), .val (.int p2), .val (.int p3), .val (.int (0 : Int32)), .val (.int (0 : Int32)), .val (.ref b3), .unset, .unset, .unset, .unset] [(.ref b11), (.ref b11)]))
      refine Good.back (fun _ k => XS.iconst X15.here hx rfl (hb hby at_53) k) ?_
      show Good p e below _ (T15.setTop (mkF m 54 #[.val (.int p0), .val (.int p1), .val (.int p2), .val (.int p3), .val (.int (0 : Int32)), .val (.int (0 : Int32)), .val (.ref b3), .unset, .unset, .unset, .unset] [(.int (1 : Int32)), (.ref b11), (.ref b11)]))
      refine Good.back (fun _ k => XS.iloadN X15.here hx rfl (hb hby at_54) rfl k) ?_
      show Good p e below _ (T15.setTop (mkF m 55 #[.val (.int p0), .val (.int p1), .val (.int p2), .val (.int p3), .val (.int (0 : Int32)), .val (.int (0 : Int32)), .val (.ref b3), .unset, .unset, .unset, .unset] [(.int p2), (.int (1 : Int32)), (.ref b11), (.ref b11)]))
      refine Good.back (fun _ k => XS.sipush X15.here hx rfl (hb hby at_55) k) ?_
      show Good p e below _ (T15.setTop (mkF m 58 #[.val (.int p0), .val (.int p1), .val (.int p2), .val (.int p3), .val (.int (0 : Int32)), .val (.int (0 : Int32)), .val (.ref b3), .unset, .unset, .unset, .unset] [(.int (255 : Int32)), (.int p2), (.int (1 : Int32)), (.ref b11), (.ref b11)]))
      refine Good.back (fun _ k => XS.iand X15.here hx rfl (hb hby at_58) rfl k) ?_
      show Good p e below _ (T15.setTop (mkF m 59 #[.val (.int p0), .val (.int p1), .val (.int p2), .val (.int p3), .val (.int (0 : Int32)), .val (.int (0 : Int32)), .val (.ref b3), .unset, .unset, .unset, .unset] [(.int (p2 &&& (255 : Int32))), (.int (1 : Int32)), (.ref b11), (.ref b11)]))
      refine Good.back (fun _ k => XS.i2c X15.here hx rfl (hb hby at_59) rfl k) ?_
      show Good p e below _ (T15.setTop (mkF m 60 #[.val (.int p0), .val (.int p1), .val (.int p2), .val (.int p3), .val (.int (0 : Int32)), .val (.int (0 : Int32)), .val (.ref b3), .unset, .unset, .unset, .unset] [(.int ((p2 &&& (255 : Int32)).toUInt32.toUInt16.toUInt32.toInt32)), (.int (1 : Int32)), (.ref b11), (.ref b11)]))
      have fc19 := f_16
      obtain ⟨cl19, Ar19, qk19, S19, N19', H19, G19⟩ := fc19
      have hin19 : ¬ ((1 : Int32) < 0 ∨ cl19.slots.size ≤ ((1 : Int32)).toNatClampNeg) := inb_of S19 ⟨by decide, by decide⟩
      obtain ⟨T19, h19, X19, e19, W19, st19⟩ := stC X15 hx hZ0 e15 Ar19 (j := (1 : Int32)) hin19 (g := (mkF m 60 #[.val (.int p0), .val (.int p1), .val (.int p2), .val (.int p3), .val (.int (0 : Int32)), .val (.int (0 : Int32)), .val (.ref b3), .unset, .unset, .unset, .unset] [(.int ((p2 &&& (255 : Int32)).toUInt32.toUInt16.toUInt32.toInt32)), (.int (1 : Int32)), (.ref b11), (.ref b11)])) rfl rfl (hb hby at_60)
      refine Good.back st19 ?_
      have f_20 : Arv Z h19 b11 k11 .char (2 : Int32) [(.int (nar .char ((p1 &&& (255 : Int32)).toUInt32.toUInt16.toUInt32.toInt32))), (.int (nar .char ((p2 &&& (255 : Int32)).toUInt32.toUInt16.toUInt32.toInt32)))] (.int (0 : Int32)) := Arv.set Ar19 qk19 S19 N19' H19 G19 (fits_nar_char _) W19 1 rfl (Nat.le_of_ble_eq_true rfl)
      have N19 := Fr.snoc X19 N15 g_b11
      have Z21 : n0 ≤ h19.size := Nat.le_trans Z17 (Keep.of_wr W19).1
      have hk22 := Nat.le_trans hk18 (Keep.of_wr W19).1
      show Good p e below _ (T19.setTop (mkF m 61 #[.val (.int p0), .val (.int p1), .val (.int p2), .val (.int p3), .val (.int (0 : Int32)), .val (.int (0 : Int32)), .val (.ref b3), .unset, .unset, .unset, .unset] [(.ref b11)]))
      refine Good.back (fun _ k => XS.astore X19.here hx rfl (hb hby at_61) rfl rfl (l' := #[.val (.int p0), .val (.int p1), .val (.int p2), .val (.int p3), .val (.int (0 : Int32)), .val (.int (0 : Int32)), .val (.ref b3), .val (.ref b11), .unset, .unset, .unset]) rfl k) ?_
      show Good p e below _ (T19.setTop (mkF m 63 #[.val (.int p0), .val (.int p1), .val (.int p2), .val (.int p3), .val (.int (0 : Int32)), .val (.int (0 : Int32)), .val (.ref b3), .val (.ref b11), .unset, .unset, .unset] []))
      refine Good.back (fun _ k => XS.iload X19.here hx rfl (hb hby at_63) rfl k) ?_
      show Good p e below _ (T19.setTop (mkF m 65 #[.val (.int p0), .val (.int p1), .val (.int p2), .val (.int p3), .val (.int (0 : Int32)), .val (.int (0 : Int32)), .val (.ref b3), .val (.ref b11), .unset, .unset, .unset] [(.int (0 : Int32))]))
      refine Good.back (fun _ k => XS.ifYes X19.here hx rfl (pc0 := 65) (pc' := 90) rfl (hb hby at_65) rfl ((if0 _ _).trans (teq (by decide : ((0 : Int32) = (0 : Int32)))).1) (by decide) (by decide) k) ?_
      show Good p e below _ (T19.setTop (mkF m 90 #[.val (.int p0), .val (.int p1), .val (.int p2), .val (.int p3), .val (.int (0 : Int32)), .val (.int (0 : Int32)), .val (.ref b3), .val (.ref b11), .unset, .unset, .unset] []))
      refine Good.back (fun _ k => XS.aconstNull X19.here hx rfl (hb hby at_90) k) ?_
      show Good p e below _ (T19.setTop (mkF m 91 #[.val (.int p0), .val (.int p1), .val (.int p2), .val (.int p3), .val (.int (0 : Int32)), .val (.int (0 : Int32)), .val (.ref b3), .val (.ref b11), .unset, .unset, .unset] [.null]))
      refine Good.back (fun _ k => XS.astore X19.here hx rfl (hb hby at_91) rfl rfl (l' := #[.val (.int p0), .val (.int p1), .val (.int p2), .val (.int p3), .val (.int (0 : Int32)), .val (.int (0 : Int32)), .val (.ref b3), .val (.ref b11), .val .null, .unset, .unset]) rfl k) ?_
      show Good p e below _ (T19.setTop (mkF m 93 #[.val (.int p0), .val (.int p1), .val (.int p2), .val (.int p3), .val (.int (0 : Int32)), .val (.int (0 : Int32)), .val (.ref b3), .val (.ref b11), .val .null, .unset, .unset] []))
      refine Good.back (fun _ k => XS.iload X19.here hx rfl (hb hby at_93) rfl k) ?_
      show Good p e below _ (T19.setTop (mkF m 95 #[.val (.int p0), .val (.int p1), .val (.int p2), .val (.int p3), .val (.int (0 : Int32)), .val (.int (0 : Int32)), .val (.ref b3), .val (.ref b11), .val .null, .unset, .unset] [(.int (0 : Int32))]))
      refine Good.back (fun _ k => XS.ifYes X19.here hx rfl (pc0 := 95) (pc' := 110) rfl (hb hby at_95) rfl ((if0 _ _).trans (teq (by decide : ((0 : Int32) = (0 : Int32)))).1) (by decide) (by decide) k) ?_
      show Good p e below _ (T19.setTop (mkF m 110 #[.val (.int p0), .val (.int p1), .val (.int p2), .val (.int p3), .val (.int (0 : Int32)), .val (.int (0 : Int32)), .val (.ref b3), .val (.ref b11), .val .null, .unset, .unset] []))
      refine Good.back (fun _ k => XS.aconstNull X19.here hx rfl (hb hby at_110) k) ?_
      show Good p e below _ (T19.setTop (mkF m 111 #[.val (.int p0), .val (.int p1), .val (.int p2), .val (.int p3), .val (.int (0 : Int32)), .val (.int (0 : Int32)), .val (.ref b3), .val (.ref b11), .val .null, .unset, .unset] [.null]))
      refine Good.back (fun _ k => XS.astore X19.here hx rfl (hb hby at_111) rfl rfl (l' := #[.val (.int p0), .val (.int p1), .val (.int p2), .val (.int p3), .val (.int (0 : Int32)), .val (.int (0 : Int32)), .val (.ref b3), .val (.ref b11), .val .null, .val .null, .unset]) rfl k) ?_
      show Good p e below _ (T19.setTop (mkF m 113 #[.val (.int p0), .val (.int p1), .val (.int p2), .val (.int p3), .val (.int (0 : Int32)), .val (.int (0 : Int32)), .val (.ref b3), .val (.ref b11), .val .null, .val .null, .unset] []))
      refine Good.back (fun _ k => XS.aload X19.here hx rfl (hb hby at_113) rfl rfl k) ?_
      show Good p e below _ (T19.setTop (mkF m 115 #[.val (.int p0), .val (.int p1), .val (.int p2), .val (.int p3), .val (.int (0 : Int32)), .val (.int (0 : Int32)), .val (.ref b3), .val (.ref b11), .val .null, .val .null, .unset] [.null]))
      refine Good.back (fun _ k => XS.aload X19.here hx rfl (hb hby at_115) rfl rfl k) ?_
      show Good p e below _ (T19.setTop (mkF m 117 #[.val (.int p0), .val (.int p1), .val (.int p2), .val (.int p3), .val (.int (0 : Int32)), .val (.int (0 : Int32)), .val (.ref b3), .val (.ref b11), .val .null, .val .null, .unset] [.null, .null]))
      obtain ⟨_, _, ⟨T23, L23, k23, n23⟩, -, X23, ⟨Lc23, hQ23, l23, y23, z23⟩, st23⟩ := Jvm.LawKit.callS X19 hx (y := (⟨"com/example/orderd/orderd/provider/Notice", "badRequest", "(Lcom/example/orderd/orderd/provider/Reply;Ljava/lang/String;)Lcom/example/orderd/orderd/provider/Notice;"⟩ : MethodName)) hown0 (mvT hZ0 (hw _ (List.mem_of_getElem? (i := 82) rfl))) (mvT hZ0 (hw _ (List.mem_of_getElem? (i := 83) rfl))) (mvT hZ0 (hw _ (List.mem_of_getElem? (i := 84) rfl))) (mvT hZ0 (hw _ (List.mem_of_getElem? (i := 85) rfl))) (by decide) (backOf (W := 0) (rm14_00 l Z a0 hw []   h19 n0 Z21 ) hZ0 (hw _ (List.mem_of_getElem? (i := 85) rfl)) (hw _ (List.mem_of_getElem? (i := 84) rfl)) (by decide) (by decide)) (g := (mkF m 117 #[.val (.int p0), .val (.int p1), .val (.int p2), .val (.int p3), .val (.int (0 : Int32)), .val (.int (0 : Int32)), .val (.ref b3), .val (.ref b11), .val .null, .val .null, .unset] [.null, .null])) rfl (by rw [hml]; rfl) (argsL := [.null, .null]) (rest := []) (lenOf own_pd301 rfl) rfl (by show 2 * 0 + _ ≤ _; exact Nat.le_of_eq rfl) (hb hby at_117) (fun _ _ => ⟨rfl, e19, (by decide : 2 + 1 ≤ _), (by decide : 3 + 7 ≤ _)⟩)
      dsimp only [Pt.U, Pt.locs, Pt.cells, Pt.slots] at X23 l23 y23 z23 st23 hQ23
      subst l23 y23 z23
      obtain ⟨nr_23, rfl, N23q, Kq23, o23_0, o23_1, o23_2, o23_3, o23_4, o23_5, o23_6, o23_7, o23_8⟩ := hQ23
      have N23 := Fr.app N19 N23q
      have Z24 : n0 ≤ T23.heap.size := Nat.le_trans Z21 Kq23.1
      have hk25 := Nat.le_trans hk22 Kq23.1
      have g_nr_23 : n0 ≤ nr_23 := Nat.le_trans Z21 o23_0
      refine Good.back st23 ?_
      show Good p e below _ (T23.setTop (mkF m 120 #[.val (.int p0), .val (.int p1), .val (.int p2), .val (.int p3), .val (.int (0 : Int32)), .val (.int (0 : Int32)), .val (.ref b3), .val (.ref b11), .val .null, .val .null, .unset] [(.ref nr_23)]))
      refine Good.back (fun _ k => XS.astore X23.here hx rfl (hb hby at_120) rfl rfl (l' := #[.val (.int p0), .val (.int p1), .val (.int p2), .val (.int p3), .val (.int (0 : Int32)), .val (.int (0 : Int32)), .val (.ref b3), .val (.ref b11), .val .null, .val .null, .val (.ref nr_23)]) rfl k) ?_
      show Good p e below _ (T23.setTop (mkF m 122 #[.val (.int p0), .val (.int p1), .val (.int p2), .val (.int p3), .val (.int (0 : Int32)), .val (.int (0 : Int32)), .val (.ref b3), .val (.ref b11), .val .null, .val .null, .val (.ref nr_23)] []))
      refine Good.back (fun _ k => XS.aload X23.here hx rfl (hb hby at_122) rfl rfl k) ?_
      show Good p e below _ (T23.setTop (mkF m 124 #[.val (.int p0), .val (.int p1), .val (.int p2), .val (.int p3), .val (.int (0 : Int32)), .val (.int (0 : Int32)), .val (.ref b3), .val (.ref b11), .val .null, .val .null, .val (.ref nr_23)] [(.ref nr_23)]))
      obtain ⟨cq26, kq26, q26a, q26b, q26c⟩ := isOf hZ0 rfl o23_1
      obtain ⟨_, _, ⟨T26, L26, k26, n26⟩, -, X26, ⟨Lc26, hQ26, l26, y26, z26⟩, st26⟩ := X23.virtualBack hx (y := (⟨"com/example/orderd/orderd/provider/Notice", "isRefused", "()Z"⟩ : MethodName)) (z := (⟨"com/example/orderd/orderd/provider/Notice", "isRefused", "()Z"⟩ : MethodName)) hown0 (mvT hZ0 (hw _ (List.mem_of_getElem? (i := 106) rfl))) (mvT hZ0 (hw _ (List.mem_of_getElem? (i := 107) rfl))) (notFace_of_selects (args := #[]) (mvT hZ0 (hw _ (List.mem_of_getElem? (i := 109) rfl)))) (mvT hZ0 (hw _ (List.mem_of_getElem? (i := 109) rfl))) (mvT hZ0 (hw _ (List.mem_of_getElem? (i := 108) rfl))) (by decide) (backOf (W := 0) (rm16 l Z a0 hw [] nr_23  T23.heap n0 Z24 o23_2) hZ0 (hw _ (List.mem_of_getElem? (i := 110) rfl)) (hw _ (List.mem_of_getElem? (i := 84) rfl)) (by decide) (by decide)) q26a q26c (g := (mkF m 124 #[.val (.int p0), .val (.int p1), .val (.int p2), .val (.int p3), .val (.int (0 : Int32)), .val (.int (0 : Int32)), .val (.ref b3), .val (.ref b11), .val .null, .val .null, .val (.ref nr_23)] [(.ref nr_23)])) rfl (by rw [hml]; rfl) (Steps.refl _) (argsL := []) (rest := []) (lenOf own_pd302 rfl) rfl (by show 2 * 0 + _ ≤ _; exact Nat.le_of_eq rfl) (hb hby at_124) (fun _ _ => ⟨rfl, rfl, (by decide : 3 + 0 ≤ _), (by decide : 10 + 0 ≤ _)⟩)
      dsimp only [Pt.U, Pt.locs, Pt.cells, Pt.slots] at X26 l26 y26 z26 st26 hQ26
      subst l26 y26 z26
      obtain ⟨rfl, N26q, eh26⟩ := hQ26
      have N26 := Fr.app N23 N26q
      refine Good.back (fun _ k => st26.trans k) ?_
      show Good p e below _ (T26.setTop (mkF m 127 #[.val (.int p0), .val (.int p1), .val (.int p2), .val (.int p3), .val (.int (0 : Int32)), .val (.int (0 : Int32)), .val (.ref b3), .val (.ref b11), .val .null, .val .null, .val (.ref nr_23)] [(.int (1 : Int32))]))
      refine Good.back (fun _ k => XS.ifNo X26.here hx rfl (hb hby at_127) rfl ((if0 _ _).trans (feq (by decide : ¬ ((1 : Int32) = (0 : Int32)))).1) k) ?_
      show Good p e below _ (T26.setTop (mkF m 130 #[.val (.int p0), .val (.int p1), .val (.int p2), .val (.int p3), .val (.int (0 : Int32)), .val (.int (0 : Int32)), .val (.ref b3), .val (.ref b11), .val .null, .val .null, .val (.ref nr_23)] []))
      refine Good.back (fun _ k => XS.aload X26.here hx rfl (hb hby at_130) rfl rfl k) ?_
      show Good p e below _ (T26.setTop (mkF m 132 #[.val (.int p0), .val (.int p1), .val (.int p2), .val (.int p3), .val (.int (0 : Int32)), .val (.int (0 : Int32)), .val (.ref b3), .val (.ref b11), .val .null, .val .null, .val (.ref nr_23)] [(.ref nr_23)]))
      obtain ⟨cq27, kq27, q27a, q27b, q27c⟩ := isOf hZ0 eh26 o23_1
      obtain ⟨_, _, ⟨T27, L27, k27, n27⟩, -, X27, ⟨Lc27, hQ27, l27, y27, z27⟩, st27⟩ := X26.virtualBack hx (y := (⟨"com/example/orderd/orderd/provider/Notice", "isBadRequest", "()Z"⟩ : MethodName)) (z := (⟨"com/example/orderd/orderd/provider/Notice", "isBadRequest", "()Z"⟩ : MethodName)) hown0 (mvT hZ0 (hw _ (List.mem_of_getElem? (i := 111) rfl))) (mvT hZ0 (hw _ (List.mem_of_getElem? (i := 112) rfl))) (notFace_of_selects (args := #[]) (mvT hZ0 (hw _ (List.mem_of_getElem? (i := 114) rfl)))) (mvT hZ0 (hw _ (List.mem_of_getElem? (i := 114) rfl))) (mvT hZ0 (hw _ (List.mem_of_getElem? (i := 113) rfl))) (by decide) (backOf (W := 0) (rm17 l Z a0 hw [] nr_23  T23.heap n0 Z24 o23_8) hZ0 (hw _ (List.mem_of_getElem? (i := 115) rfl)) (hw _ (List.mem_of_getElem? (i := 84) rfl)) (by decide) (by decide)) q27a q27c (g := (mkF m 132 #[.val (.int p0), .val (.int p1), .val (.int p2), .val (.int p3), .val (.int (0 : Int32)), .val (.int (0 : Int32)), .val (.ref b3), .val (.ref b11), .val .null, .val .null, .val (.ref nr_23)] [(.ref nr_23)])) rfl (by rw [hml]; rfl) (Steps.refl _) (argsL := []) (rest := []) (lenOf own_pd302 rfl) rfl (by show 2 * 0 + _ ≤ _; exact Nat.le_of_eq rfl) (hb hby at_132) (fun _ _ => ⟨rfl, eh26, (by decide : 3 + 0 ≤ _), (by decide : 10 + 0 ≤ _)⟩)
      dsimp only [Pt.U, Pt.locs, Pt.cells, Pt.slots] at X27 l27 y27 z27 st27 hQ27
      subst l27 y27 z27
      obtain ⟨rfl, N27q, eh27⟩ := hQ27
      have N27 := Fr.app N26 N27q
      refine Good.back (fun _ k => st27.trans k) ?_
      show Good p e below _ (T27.setTop (mkF m 135 #[.val (.int p0), .val (.int p1), .val (.int p2), .val (.int p3), .val (.int (0 : Int32)), .val (.int (0 : Int32)), .val (.ref b3), .val (.ref b11), .val .null, .val .null, .val (.ref nr_23)] [(.int (1 : Int32))]))
      refine Good.back (fun _ k => XS.ifNo X27.here hx rfl (hb hby at_135) rfl ((if0 _ _).trans (feq (by decide : ¬ ((1 : Int32) = (0 : Int32)))).1) k) ?_
      show Good p e below _ (T27.setTop (mkF m 138 #[.val (.int p0), .val (.int p1), .val (.int p2), .val (.int p3), .val (.int (0 : Int32)), .val (.int (0 : Int32)), .val (.ref b3), .val (.ref b11), .val .null, .val .null, .val (.ref nr_23)] []))
      refine Good.back (fun _ k => XS.aload X27.here hx rfl (hb hby at_138) rfl rfl k) ?_
      show Good p e below _ (T27.setTop (mkF m 140 #[.val (.int p0), .val (.int p1), .val (.int p2), .val (.int p3), .val (.int (0 : Int32)), .val (.int (0 : Int32)), .val (.ref b3), .val (.ref b11), .val .null, .val .null, .val (.ref nr_23)] [(.ref nr_23)]))
      obtain ⟨cq28, kq28, q28a, q28b, q28c⟩ := isOf hZ0 eh27 o23_1
      obtain ⟨_, _, ⟨T28, L28, k28, n28⟩, -, X28, ⟨Lc28, hQ28, l28, y28, z28⟩, st28⟩ := X27.virtualBack hx (y := (⟨"com/example/orderd/orderd/provider/Notice", "isRejected", "()Z"⟩ : MethodName)) (z := (⟨"com/example/orderd/orderd/provider/Notice", "isRejected", "()Z"⟩ : MethodName)) hown0 (mvT hZ0 (hw _ (List.mem_of_getElem? (i := 116) rfl))) (mvT hZ0 (hw _ (List.mem_of_getElem? (i := 117) rfl))) (notFace_of_selects (args := #[]) (mvT hZ0 (hw _ (List.mem_of_getElem? (i := 119) rfl)))) (mvT hZ0 (hw _ (List.mem_of_getElem? (i := 119) rfl))) (mvT hZ0 (hw _ (List.mem_of_getElem? (i := 118) rfl))) (by decide) (backOf (W := 0) (rm18 l Z a0 hw [] nr_23  T23.heap n0 Z24 o23_6) hZ0 (hw _ (List.mem_of_getElem? (i := 120) rfl)) (hw _ (List.mem_of_getElem? (i := 84) rfl)) (by decide) (by decide)) q28a q28c (g := (mkF m 140 #[.val (.int p0), .val (.int p1), .val (.int p2), .val (.int p3), .val (.int (0 : Int32)), .val (.int (0 : Int32)), .val (.ref b3), .val (.ref b11), .val .null, .val .null, .val (.ref nr_23)] [(.ref nr_23)])) rfl (by rw [hml]; rfl) (Steps.refl _) (argsL := []) (rest := []) (lenOf own_pd302 rfl) rfl (by show 2 * 0 + _ ≤ _; exact Nat.le_of_eq rfl) (hb hby at_140) (fun _ _ => ⟨rfl, eh27, (by decide : 3 + 0 ≤ _), (by decide : 10 + 0 ≤ _)⟩)
      dsimp only [Pt.U, Pt.locs, Pt.cells, Pt.slots] at X28 l28 y28 z28 st28 hQ28
      subst l28 y28 z28
      obtain ⟨rfl, N28q, eh28⟩ := hQ28
      have N28 := Fr.app N27 N28q
      refine Good.back (fun _ k => st28.trans k) ?_
      show Good p e below _ (T28.setTop (mkF m 143 #[.val (.int p0), .val (.int p1), .val (.int p2), .val (.int p3), .val (.int (0 : Int32)), .val (.int (0 : Int32)), .val (.ref b3), .val (.ref b11), .val .null, .val .null, .val (.ref nr_23)] [(.int (0 : Int32))]))
      refine Good.back (fun _ k => XS.ifNo X28.here hx rfl (hb hby at_143) rfl ((if0 _ _).trans (teq (by decide : ((0 : Int32) = (0 : Int32)))).2) k) ?_
      show Good p e below _ (T28.setTop (mkF m 146 #[.val (.int p0), .val (.int p1), .val (.int p2), .val (.int p3), .val (.int (0 : Int32)), .val (.int (0 : Int32)), .val (.ref b3), .val (.ref b11), .val .null, .val .null, .val (.ref nr_23)] []))
      refine Good.back (fun _ k => XS.aload X28.here hx rfl (hb hby at_146) rfl rfl k) ?_
      show Good p e below _ (T28.setTop (mkF m 148 #[.val (.int p0), .val (.int p1), .val (.int p2), .val (.int p3), .val (.int (0 : Int32)), .val (.int (0 : Int32)), .val (.ref b3), .val (.ref b11), .val .null, .val .null, .val (.ref nr_23)] [(.ref nr_23)]))
      obtain ⟨cq29, kq29, q29a, q29b, q29c⟩ := isOf hZ0 eh28 o23_1
      obtain ⟨_, _, ⟨T29, L29, k29, n29⟩, -, X29, ⟨Lc29, hQ29, l29, y29, z29⟩, st29⟩ := X28.virtualBack hx (y := (⟨"com/example/orderd/orderd/provider/Notice", "isRefund", "()Z"⟩ : MethodName)) (z := (⟨"com/example/orderd/orderd/provider/Notice", "isRefund", "()Z"⟩ : MethodName)) hown0 (mvT hZ0 (hw _ (List.mem_of_getElem? (i := 121) rfl))) (mvT hZ0 (hw _ (List.mem_of_getElem? (i := 122) rfl))) (notFace_of_selects (args := #[]) (mvT hZ0 (hw _ (List.mem_of_getElem? (i := 124) rfl)))) (mvT hZ0 (hw _ (List.mem_of_getElem? (i := 124) rfl))) (mvT hZ0 (hw _ (List.mem_of_getElem? (i := 123) rfl))) (by decide) (backOf (W := 0) (rm19 l Z a0 hw [] nr_23  T23.heap n0 Z24 o23_3) hZ0 (hw _ (List.mem_of_getElem? (i := 125) rfl)) (hw _ (List.mem_of_getElem? (i := 84) rfl)) (by decide) (by decide)) q29a q29c (g := (mkF m 148 #[.val (.int p0), .val (.int p1), .val (.int p2), .val (.int p3), .val (.int (0 : Int32)), .val (.int (0 : Int32)), .val (.ref b3), .val (.ref b11), .val .null, .val .null, .val (.ref nr_23)] [(.ref nr_23)])) rfl (by rw [hml]; rfl) (Steps.refl _) (argsL := []) (rest := []) (lenOf own_pd302 rfl) rfl (by show 2 * 0 + _ ≤ _; exact Nat.le_of_eq rfl) (hb hby at_148) (fun _ _ => ⟨rfl, eh28, (by decide : 3 + 0 ≤ _), (by decide : 10 + 0 ≤ _)⟩)
      dsimp only [Pt.U, Pt.locs, Pt.cells, Pt.slots] at X29 l29 y29 z29 st29 hQ29
      subst l29 y29 z29
      obtain ⟨rfl, N29q, eh29⟩ := hQ29
      have N29 := Fr.app N28 N29q
      refine Good.back (fun _ k => st29.trans k) ?_
      show Good p e below _ (T29.setTop (mkF m 151 #[.val (.int p0), .val (.int p1), .val (.int p2), .val (.int p3), .val (.int (0 : Int32)), .val (.int (0 : Int32)), .val (.ref b3), .val (.ref b11), .val .null, .val .null, .val (.ref nr_23)] [(.int (0 : Int32))]))
      refine Good.back (fun _ k => XS.ifNo X29.here hx rfl (hb hby at_151) rfl ((if0 _ _).trans (teq (by decide : ((0 : Int32) = (0 : Int32)))).2) k) ?_
      show Good p e below _ (T29.setTop (mkF m 154 #[.val (.int p0), .val (.int p1), .val (.int p2), .val (.int p3), .val (.int (0 : Int32)), .val (.int (0 : Int32)), .val (.ref b3), .val (.ref b11), .val .null, .val .null, .val (.ref nr_23)] []))
      refine Good.back (fun _ k => XS.aload X29.here hx rfl (hb hby at_154) rfl rfl k) ?_
      show Good p e below _ (T29.setTop (mkF m 156 #[.val (.int p0), .val (.int p1), .val (.int p2), .val (.int p3), .val (.int (0 : Int32)), .val (.int (0 : Int32)), .val (.ref b3), .val (.ref b11), .val .null, .val .null, .val (.ref nr_23)] [(.ref nr_23)]))
      obtain ⟨cq30, kq30, q30a, q30b, q30c⟩ := isOf hZ0 eh29 o23_1
      obtain ⟨_, _, ⟨T30, L30, k30, n30⟩, -, X30, ⟨Lc30, hQ30, l30, y30, z30⟩, st30⟩ := X29.virtualBack hx (y := (⟨"com/example/orderd/orderd/provider/Notice", "order", "()Lcom/example/orderd/orderd/order/Order;"⟩ : MethodName)) (z := (⟨"com/example/orderd/orderd/provider/Notice", "order", "()Lcom/example/orderd/orderd/order/Order;"⟩ : MethodName)) hown0 (mvT hZ0 (hw _ (List.mem_of_getElem? (i := 126) rfl))) (mvT hZ0 (hw _ (List.mem_of_getElem? (i := 127) rfl))) (notFace_of_selects (args := #[]) (mvT hZ0 (hw _ (List.mem_of_getElem? (i := 129) rfl)))) (mvT hZ0 (hw _ (List.mem_of_getElem? (i := 129) rfl))) (mvT hZ0 (hw _ (List.mem_of_getElem? (i := 128) rfl))) (by decide) (backOf (W := 0) (rm20 l Z a0 hw [] nr_23  T23.heap n0 Z24 o23_2) hZ0 (hw _ (List.mem_of_getElem? (i := 130) rfl)) (hw _ (List.mem_of_getElem? (i := 84) rfl)) (by decide) (by decide)) q30a q30c (g := (mkF m 156 #[.val (.int p0), .val (.int p1), .val (.int p2), .val (.int p3), .val (.int (0 : Int32)), .val (.int (0 : Int32)), .val (.ref b3), .val (.ref b11), .val .null, .val .null, .val (.ref nr_23)] [(.ref nr_23)])) rfl (by rw [hml]; rfl) (Steps.refl _) (argsL := []) (rest := []) (lenOf own_pd303 rfl) rfl (by show 2 * 0 + _ ≤ _; exact Nat.le_of_eq rfl) (hb hby at_156) (fun _ _ => ⟨rfl, eh29, (by decide : 3 + 0 ≤ _), (by decide : 10 + 0 ≤ _)⟩)
      dsimp only [Pt.U, Pt.locs, Pt.cells, Pt.slots] at X30 l30 y30 z30 st30 hQ30
      subst l30 y30 z30
      obtain ⟨rfl, N30q, eh30⟩ := hQ30
      have N30 := Fr.app N29 N30q
      refine Good.back (fun _ k => st30.trans k) ?_
      show Good p e below _ (T30.setTop (mkF m 159 #[.val (.int p0), .val (.int p1), .val (.int p2), .val (.int p3), .val (.int (0 : Int32)), .val (.int (0 : Int32)), .val (.ref b3), .val (.ref b11), .val .null, .val .null, .val (.ref nr_23)] [.null]))
      refine Good.back (fun _ k => XS.ifnonnullNo X30.here hx rfl (hb hby at_159) rfl k) ?_
      show Good p e below _ (T30.setTop (mkF m 162 #[.val (.int p0), .val (.int p1), .val (.int p2), .val (.int p3), .val (.int (0 : Int32)), .val (.int (0 : Int32)), .val (.ref b3), .val (.ref b11), .val .null, .val .null, .val (.ref nr_23)] []))
      refine Good.back (fun _ k => XS.aload X30.here hx rfl (hb hby at_162) rfl rfl k) ?_
      show Good p e below _ (T30.setTop (mkF m 164 #[.val (.int p0), .val (.int p1), .val (.int p2), .val (.int p3), .val (.int (0 : Int32)), .val (.int (0 : Int32)), .val (.ref b3), .val (.ref b11), .val .null, .val .null, .val (.ref nr_23)] [(.ref nr_23)]))
      obtain ⟨cq31, kq31, q31a, q31b, q31c⟩ := isOf hZ0 eh30 o23_1
      obtain ⟨_, _, ⟨T31, L31, k31, n31⟩, -, X31, ⟨Lc31, hQ31, l31, y31, z31⟩, st31⟩ := X30.virtualBack hx (y := (⟨"com/example/orderd/orderd/provider/Notice", "sign", "()Ljava/lang/String;"⟩ : MethodName)) (z := (⟨"com/example/orderd/orderd/provider/Notice", "sign", "()Ljava/lang/String;"⟩ : MethodName)) hown0 (mvT hZ0 (hw _ (List.mem_of_getElem? (i := 131) rfl))) (mvT hZ0 (hw _ (List.mem_of_getElem? (i := 132) rfl))) (notFace_of_selects (args := #[]) (mvT hZ0 (hw _ (List.mem_of_getElem? (i := 134) rfl)))) (mvT hZ0 (hw _ (List.mem_of_getElem? (i := 134) rfl))) (mvT hZ0 (hw _ (List.mem_of_getElem? (i := 133) rfl))) (by decide) (backOf (W := 0) (rm21 l Z a0 hw [] nr_23  T23.heap n0 Z24 o23_4) hZ0 (hw _ (List.mem_of_getElem? (i := 135) rfl)) (hw _ (List.mem_of_getElem? (i := 84) rfl)) (by decide) (by decide)) q31a q31c (g := (mkF m 164 #[.val (.int p0), .val (.int p1), .val (.int p2), .val (.int p3), .val (.int (0 : Int32)), .val (.int (0 : Int32)), .val (.ref b3), .val (.ref b11), .val .null, .val .null, .val (.ref nr_23)] [(.ref nr_23)])) rfl (by rw [hml]; rfl) (Steps.refl _) (argsL := []) (rest := []) (lenOf own_pd304 rfl) rfl (by show 2 * 0 + _ ≤ _; exact Nat.le_of_eq rfl) (hb hby at_164) (fun _ _ => ⟨rfl, eh30, (by decide : 3 + 0 ≤ _), (by decide : 10 + 0 ≤ _)⟩)
      dsimp only [Pt.U, Pt.locs, Pt.cells, Pt.slots] at X31 l31 y31 z31 st31 hQ31
      subst l31 y31 z31
      obtain ⟨rfl, N31q, eh31⟩ := hQ31
      have N31 := Fr.app N30 N31q
      refine Good.back (fun _ k => st31.trans k) ?_
      show Good p e below _ (T31.setTop (mkF m 167 #[.val (.int p0), .val (.int p1), .val (.int p2), .val (.int p3), .val (.int (0 : Int32)), .val (.int (0 : Int32)), .val (.ref b3), .val (.ref b11), .val .null, .val .null, .val (.ref nr_23)] [.null]))
      refine Good.back (fun _ k => XS.ifnonnullNo X31.here hx rfl (hb hby at_167) rfl k) ?_
      show Good p e below _ (T31.setTop (mkF m 170 #[.val (.int p0), .val (.int p1), .val (.int p2), .val (.int p3), .val (.int (0 : Int32)), .val (.int (0 : Int32)), .val (.ref b3), .val (.ref b11), .val .null, .val .null, .val (.ref nr_23)] []))
      refine Good.back (fun _ k => XS.aload X31.here hx rfl (hb hby at_170) rfl rfl k) ?_
      show Good p e below _ (T31.setTop (mkF m 172 #[.val (.int p0), .val (.int p1), .val (.int p2), .val (.int p3), .val (.int (0 : Int32)), .val (.int (0 : Int32)), .val (.ref b3), .val (.ref b11), .val .null, .val .null, .val (.ref nr_23)] [(.ref nr_23)]))
      obtain ⟨cq32, kq32, q32a, q32b, q32c⟩ := isOf hZ0 eh31 o23_1
      obtain ⟨_, _, ⟨T32, L32, k32, n32⟩, -, X32, ⟨Lc32, hQ32, l32, y32, z32⟩, st32⟩ := X31.virtualBack hx (y := (⟨"com/example/orderd/orderd/provider/Notice", "refusal", "()Lcom/example/orderd/orderd/provider/Reply;"⟩ : MethodName)) (z := (⟨"com/example/orderd/orderd/provider/Notice", "refusal", "()Lcom/example/orderd/orderd/provider/Reply;"⟩ : MethodName)) hown0 (mvT hZ0 (hw _ (List.mem_of_getElem? (i := 136) rfl))) (mvT hZ0 (hw _ (List.mem_of_getElem? (i := 137) rfl))) (notFace_of_selects (args := #[]) (mvT hZ0 (hw _ (List.mem_of_getElem? (i := 139) rfl)))) (mvT hZ0 (hw _ (List.mem_of_getElem? (i := 139) rfl))) (mvT hZ0 (hw _ (List.mem_of_getElem? (i := 138) rfl))) (by decide) (backOf (W := 0) (rm22z l Z a0 hw [] nr_23  T23.heap n0 Z24 o23_5) hZ0 (hw _ (List.mem_of_getElem? (i := 140) rfl)) (hw _ (List.mem_of_getElem? (i := 84) rfl)) (by decide) (by decide)) q32a q32c (g := (mkF m 172 #[.val (.int p0), .val (.int p1), .val (.int p2), .val (.int p3), .val (.int (0 : Int32)), .val (.int (0 : Int32)), .val (.ref b3), .val (.ref b11), .val .null, .val .null, .val (.ref nr_23)] [(.ref nr_23)])) rfl (by rw [hml]; rfl) (Steps.refl _) (argsL := []) (rest := []) (lenOf own_pd305 rfl) rfl (by show 2 * 0 + _ ≤ _; exact Nat.le_of_eq rfl) (hb hby at_172) (fun _ _ => ⟨rfl, eh31, (by decide : 3 + 0 ≤ _), (by decide : 10 + 0 ≤ _)⟩)
      dsimp only [Pt.U, Pt.locs, Pt.cells, Pt.slots] at X32 l32 y32 z32 st32 hQ32
      subst l32 y32 z32
      obtain ⟨rfl, N32q, eh32⟩ := hQ32
      have N32 := Fr.app N31 N32q
      refine Good.back (fun _ k => st32.trans k) ?_
      show Good p e below _ (T32.setTop (mkF m 175 #[.val (.int p0), .val (.int p1), .val (.int p2), .val (.int p3), .val (.int (0 : Int32)), .val (.int (0 : Int32)), .val (.ref b3), .val (.ref b11), .val .null, .val .null, .val (.ref nr_23)] [.null]))
      refine Good.back (fun _ k => XS.aload X32.here hx rfl (hb hby at_175) rfl rfl k) ?_
      show Good p e below _ (T32.setTop (mkF m 177 #[.val (.int p0), .val (.int p1), .val (.int p2), .val (.int p3), .val (.int (0 : Int32)), .val (.int (0 : Int32)), .val (.ref b3), .val (.ref b11), .val .null, .val .null, .val (.ref nr_23)] [.null, .null]))
      refine Good.back (fun _ k => Jvm.RoadKit.acmp (g := (mkF m 177 #[.val (.int p0), .val (.int p1), .val (.int p2), .val (.int p3), .val (.int (0 : Int32)), .val (.int (0 : Int32)), .val (.ref b3), .val (.ref b11), .val .null, .val .null, .val (.ref nr_23)] [.null, .null])) X32 hx rfl rfl rfl (pc0 := 177) (pc' := 180) (same := true) rfl (hb hby at_177) rfl (decide_eq_true rfl) (by decide) (by decide) k) ?_
      show Good p e below _ (T32.setTop (mkF m 180 #[.val (.int p0), .val (.int p1), .val (.int p2), .val (.int p3), .val (.int (0 : Int32)), .val (.int (0 : Int32)), .val (.ref b3), .val (.ref b11), .val .null, .val .null, .val (.ref nr_23)] []))
      refine Good.back (fun _ k => XS.aload X32.here hx rfl (hb hby at_180) rfl rfl k) ?_
      show Good p e below _ (T32.setTop (mkF m 182 #[.val (.int p0), .val (.int p1), .val (.int p2), .val (.int p3), .val (.int (0 : Int32)), .val (.int (0 : Int32)), .val (.ref b3), .val (.ref b11), .val .null, .val .null, .val (.ref nr_23)] [(.ref nr_23)]))
      obtain ⟨cq33, kq33, q33a, q33b, q33c⟩ := isOf hZ0 eh32 o23_1
      obtain ⟨_, _, ⟨T33, L33, k33, n33⟩, -, X33, ⟨Lc33, hQ33, l33, y33, z33⟩, st33⟩ := X32.virtualBack hx (y := (⟨"com/example/orderd/orderd/provider/Notice", "rejection", "()Lcom/example/orderd/orderd/order/Rejection;"⟩ : MethodName)) (z := (⟨"com/example/orderd/orderd/provider/Notice", "rejection", "()Lcom/example/orderd/orderd/order/Rejection;"⟩ : MethodName)) hown0 (mvT hZ0 (hw _ (List.mem_of_getElem? (i := 141) rfl))) (mvT hZ0 (hw _ (List.mem_of_getElem? (i := 142) rfl))) (notFace_of_selects (args := #[]) (mvT hZ0 (hw _ (List.mem_of_getElem? (i := 144) rfl)))) (mvT hZ0 (hw _ (List.mem_of_getElem? (i := 144) rfl))) (mvT hZ0 (hw _ (List.mem_of_getElem? (i := 143) rfl))) (by decide) (backOf (W := 0) (rm23 l Z a0 hw [] nr_23  T23.heap n0 Z24 o23_6) hZ0 (hw _ (List.mem_of_getElem? (i := 145) rfl)) (hw _ (List.mem_of_getElem? (i := 84) rfl)) (by decide) (by decide)) q33a q33c (g := (mkF m 182 #[.val (.int p0), .val (.int p1), .val (.int p2), .val (.int p3), .val (.int (0 : Int32)), .val (.int (0 : Int32)), .val (.ref b3), .val (.ref b11), .val .null, .val .null, .val (.ref nr_23)] [(.ref nr_23)])) rfl (by rw [hml]; rfl) (Steps.refl _) (argsL := []) (rest := []) (lenOf own_pd306 rfl) rfl (by show 2 * 0 + _ ≤ _; exact Nat.le_of_eq rfl) (hb hby at_182) (fun _ _ => ⟨rfl, eh32, (by decide : 3 + 0 ≤ _), (by decide : 10 + 0 ≤ _)⟩)
      dsimp only [Pt.U, Pt.locs, Pt.cells, Pt.slots] at X33 l33 y33 z33 st33 hQ33
      subst l33 y33 z33
      obtain ⟨rfl, N33q, eh33⟩ := hQ33
      have N33 := Fr.app N32 N33q
      refine Good.back (fun _ k => st33.trans k) ?_
      show Good p e below _ (T33.setTop (mkF m 185 #[.val (.int p0), .val (.int p1), .val (.int p2), .val (.int p3), .val (.int (0 : Int32)), .val (.int (0 : Int32)), .val (.ref b3), .val (.ref b11), .val .null, .val .null, .val (.ref nr_23)] [.null]))
      refine Good.back (fun _ k => XS.ifnonnullNo X33.here hx rfl (hb hby at_185) rfl k) ?_
      show Good p e below _ (T33.setTop (mkF m 188 #[.val (.int p0), .val (.int p1), .val (.int p2), .val (.int p3), .val (.int (0 : Int32)), .val (.int (0 : Int32)), .val (.ref b3), .val (.ref b11), .val .null, .val .null, .val (.ref nr_23)] []))
      refine Good.back (fun _ k => XS.aload X33.here hx rfl (hb hby at_188) rfl rfl k) ?_
      show Good p e below _ (T33.setTop (mkF m 190 #[.val (.int p0), .val (.int p1), .val (.int p2), .val (.int p3), .val (.int (0 : Int32)), .val (.int (0 : Int32)), .val (.ref b3), .val (.ref b11), .val .null, .val .null, .val (.ref nr_23)] [(.ref nr_23)]))
      obtain ⟨cq34, kq34, q34a, q34b, q34c⟩ := isOf hZ0 eh33 o23_1
      obtain ⟨_, _, ⟨T34, L34, k34, n34⟩, -, X34, ⟨Lc34, hQ34, l34, y34, z34⟩, st34⟩ := X33.virtualBack hx (y := (⟨"com/example/orderd/orderd/provider/Notice", "reason", "()Ljava/lang/String;"⟩ : MethodName)) (z := (⟨"com/example/orderd/orderd/provider/Notice", "reason", "()Ljava/lang/String;"⟩ : MethodName)) hown0 (mvT hZ0 (hw _ (List.mem_of_getElem? (i := 146) rfl))) (mvT hZ0 (hw _ (List.mem_of_getElem? (i := 147) rfl))) (notFace_of_selects (args := #[]) (mvT hZ0 (hw _ (List.mem_of_getElem? (i := 149) rfl)))) (mvT hZ0 (hw _ (List.mem_of_getElem? (i := 149) rfl))) (mvT hZ0 (hw _ (List.mem_of_getElem? (i := 148) rfl))) (by decide) (backOf (W := 0) (rm24z l Z a0 hw [] nr_23  T23.heap n0 Z24 o23_7) hZ0 (hw _ (List.mem_of_getElem? (i := 150) rfl)) (hw _ (List.mem_of_getElem? (i := 84) rfl)) (by decide) (by decide)) q34a q34c (g := (mkF m 190 #[.val (.int p0), .val (.int p1), .val (.int p2), .val (.int p3), .val (.int (0 : Int32)), .val (.int (0 : Int32)), .val (.ref b3), .val (.ref b11), .val .null, .val .null, .val (.ref nr_23)] [(.ref nr_23)])) rfl (by rw [hml]; rfl) (Steps.refl _) (argsL := []) (rest := []) (lenOf own_pd304 rfl) rfl (by show 2 * 0 + _ ≤ _; exact Nat.le_of_eq rfl) (hb hby at_190) (fun _ _ => ⟨rfl, eh33, (by decide : 3 + 0 ≤ _), (by decide : 10 + 0 ≤ _)⟩)
      dsimp only [Pt.U, Pt.locs, Pt.cells, Pt.slots] at X34 l34 y34 z34 st34 hQ34
      subst l34 y34 z34
      obtain ⟨rfl, N34q, eh34⟩ := hQ34
      have N34 := Fr.app N33 N34q
      refine Good.back (fun _ k => st34.trans k) ?_
      show Good p e below _ (T34.setTop (mkF m 193 #[.val (.int p0), .val (.int p1), .val (.int p2), .val (.int p3), .val (.int (0 : Int32)), .val (.int (0 : Int32)), .val (.ref b3), .val (.ref b11), .val .null, .val .null, .val (.ref nr_23)] [.null]))
      refine Good.back (fun _ k => XS.aload X34.here hx rfl (hb hby at_193) rfl rfl k) ?_
      show Good p e below _ (T34.setTop (mkF m 195 #[.val (.int p0), .val (.int p1), .val (.int p2), .val (.int p3), .val (.int (0 : Int32)), .val (.int (0 : Int32)), .val (.ref b3), .val (.ref b11), .val .null, .val .null, .val (.ref nr_23)] [.null, .null]))
      refine Good.back (fun _ k => Jvm.RoadKit.acmp (g := (mkF m 195 #[.val (.int p0), .val (.int p1), .val (.int p2), .val (.int p3), .val (.int (0 : Int32)), .val (.int (0 : Int32)), .val (.ref b3), .val (.ref b11), .val .null, .val .null, .val (.ref nr_23)] [.null, .null])) X34 hx rfl rfl rfl (pc0 := 195) (pc' := 198) (same := true) rfl (hb hby at_195) rfl (decide_eq_true rfl) (by decide) (by decide) k) ?_
      show Good p e below _ (T34.setTop (mkF m 198 #[.val (.int p0), .val (.int p1), .val (.int p2), .val (.int p3), .val (.int (0 : Int32)), .val (.int (0 : Int32)), .val (.ref b3), .val (.ref b11), .val .null, .val .null, .val (.ref nr_23)] []))
      refine Good.back (fun _ k => XS.iconst X34.here hx rfl (hb hby at_198) k) ?_
      show Good p e below _ (T34.setTop (mkF m 199 #[.val (.int p0), .val (.int p1), .val (.int p2), .val (.int p3), .val (.int (0 : Int32)), .val (.int (0 : Int32)), .val (.ref b3), .val (.ref b11), .val .null, .val .null, .val (.ref nr_23)] [(.int (1 : Int32))]))
      refine Good.back (fun _ k => XS.goto X34.here hx rfl (pc0 := 199) (pc' := 203) rfl (hb hby at_199) (by decide) (by decide) k) ?_
      show Good p e below _ (T34.setTop (mkF m 203 #[.val (.int p0), .val (.int p1), .val (.int p2), .val (.int p3), .val (.int (0 : Int32)), .val (.int (0 : Int32)), .val (.ref b3), .val (.ref b11), .val .null, .val .null, .val (.ref nr_23)] [(.int (1 : Int32))]))
      obtain ⟨fs35, hr35, hrun35, hended35, hRE35⟩ := leaveW X34 hS0 (by rw [eh34]; exact hk25) (v := some (.int (1 : Int32))) (fun h => by rw [Bd.returns] at h; cases h)
      refine Good.done (retN X34 hx (t := .boolean) Bd.returns (by simp) (hb hby at_203) hr35) hrun35 hended35 ⟨_, _, rfl, ?_, hRE35.1, hRE35.2.1, hRE35.2.2.1, hRE35.2.2.2.mono (by decide) (by decide)⟩
      show Q0 Z p0 p1 p2 p3 u8 cs h0 n0 _ T34.heap _
      rw [eh34]
      exact ⟨rfl, N34⟩
    · refine Good.back (fun _ k => XS.ifNo X0c.here hx rfl (hb hby at_16) rfl ((if0 _ _).trans (feq hc16_2).1) k) ?_
      show Good p e below _ (s₁.setTop (mkF m 19 #[.val (.int p0), .val (.int p1), .val (.int p2), .val (.int p3), .val (.int (0 : Int32)), .unset, .unset, .unset, .unset, .unset, .unset] []))
      refine Good.back (fun _ k => XS.iconst X0c.here hx rfl (hb hby at_19) k) ?_
      show Good p e below _ (s₁.setTop (mkF m 20 #[.val (.int p0), .val (.int p1), .val (.int p2), .val (.int p3), .val (.int (0 : Int32)), .unset, .unset, .unset, .unset, .unset, .unset] [(.int (1 : Int32))]))
      refine Good.back (fun _ k => XS.goto X0c.here hx rfl (pc0 := 20) (pc' := 24) rfl (hb hby at_20) (by decide) (by decide) k) ?_
      show Good p e below _ (s₁.setTop (mkF m 24 #[.val (.int p0), .val (.int p1), .val (.int p2), .val (.int p3), .val (.int (0 : Int32)), .unset, .unset, .unset, .unset, .unset, .unset] [(.int (1 : Int32))]))
      refine Good.back (fun _ k => XS.istore X0c.here hx rfl (hb hby at_24) rfl (l' := #[.val (.int p0), .val (.int p1), .val (.int p2), .val (.int p3), .val (.int (0 : Int32)), .val (.int (1 : Int32)), .unset, .unset, .unset, .unset, .unset]) rfl k) ?_
      show Good p e below _ (s₁.setTop (mkF m 26 #[.val (.int p0), .val (.int p1), .val (.int p2), .val (.int p3), .val (.int (0 : Int32)), .val (.int (1 : Int32)), .unset, .unset, .unset, .unset, .unset] []))
      refine Good.back (fun _ k => XS.iconst X0c.here hx rfl (hb hby at_26) k) ?_
      show Good p e below _ (s₁.setTop (mkF m 27 #[.val (.int p0), .val (.int p1), .val (.int p2), .val (.int p3), .val (.int (0 : Int32)), .val (.int (1 : Int32)), .unset, .unset, .unset, .unset, .unset] [(.int (1 : Int32))]))
      obtain ⟨T36, h36, k36, X36, e36, E36, A36, st36⟩ := newP X0c hx hZ0 (hw _ (List.mem_of_getElem? (i := 0) rfl)) e0 (g := (mkF m 27 #[.val (.int p0), .val (.int p1), .val (.int p2), .val (.int p3), .val (.int (0 : Int32)), .val (.int (1 : Int32)), .unset, .unset, .unset, .unset, .unset] [(.int (1 : Int32))])) rfl (hb hby at_27) rfl (by decide) (cap := 1) (by decide) (by decide) (by decide) (by decide)
      obtain ⟨b36, g36⟩ : ∃ z, z = h0.size := ⟨_, rfl⟩
      rw [← g36] at A36 st36
      refine Good.back st36 ?_
      have g_b36 : n0 ≤ b36 := Nat.le_trans Z0 (Nat.le_of_eq g36.symm)
      have Z37 : n0 ≤ h36.size := Nat.le_trans Z0 E36.1
      have hk38 := Nat.le_trans hk0 E36.1
      have f_39 : Arv Z h36 b36 k36 .char (1 : Int32) [(.int (0 : Int32))] (.int (0 : Int32)) := (Arv.new A36 (by decide)).pad (pad_rep [] (.int (0 : Int32)) 1)
      show Good p e below _ (T36.setTop (mkF m 29 #[.val (.int p0), .val (.int p1), .val (.int p2), .val (.int p3), .val (.int (0 : Int32)), .val (.int (1 : Int32)), .unset, .unset, .unset, .unset, .unset] [(.ref b36)]))
      refine Good.back (fun _ k => XS.dup X36.here hx rfl (hb hby at_29) rfl rfl k) ?_
      show Good p e below _ (T36.setTop (mkF m 30 #[.val (.int p0), .val (.int p1), .val (.int p2), .val (.int p3), .val (.int (0 : Int32)), .val (.int (1 : Int32)), .unset, .unset, .unset, .unset, .unset] [(.ref b36), (.ref b36)]))
      refine Good.back (fun _ k => XS.iconst X36.here hx rfl (hb hby at_30) k) ?_
      show Good p e below _ (T36.setTop (mkF m 31 #[.val (.int p0), .val (.int p1), .val (.int p2), .val (.int p3), .val (.int (0 : Int32)), .val (.int (1 : Int32)), .unset, .unset, .unset, .unset, .unset] [(.int (0 : Int32)), (.ref b36), (.ref b36)]))
      refine Good.back (fun _ k => XS.iloadN X36.here hx rfl (hb hby at_31) rfl k) ?_
      show Good p e below _ (T36.setTop (mkF m 32 #[.val (.int p0), .val (.int p1), .val (.int p2), .val (.int p3), .val (.int (0 : Int32)), .val (.int (1 : Int32)), .unset, .unset, .unset, .unset, .unset] [(.int p2), (.int (0 : Int32)), (.ref b36), (.ref b36)]))
      refine Good.back (fun _ k => XS.sipush X36.here hx rfl (hb hby at_32) k) ?_
      show Good p e below _ (T36.setTop (mkF m 35 #[.val (.int p0), .val (.int p1), .val (.int p2), .val (.int p3), .val (.int (0 : Int32)), .val (.int (1 : Int32)), .unset, .unset, .unset, .unset, .unset] [(.int (255 : Int32)), (.int p2), (.int (0 : Int32)), (.ref b36), (.ref b36)]))
      refine Good.back (fun _ k => XS.iand X36.here hx rfl (hb hby at_35) rfl k) ?_
      show Good p e below _ (T36.setTop (mkF m 36 #[.val (.int p0), .val (.int p1), .val (.int p2), .val (.int p3), .val (.int (0 : Int32)), .val (.int (1 : Int32)), .unset, .unset, .unset, .unset, .unset] [(.int (p2 &&& (255 : Int32))), (.int (0 : Int32)), (.ref b36), (.ref b36)]))
      refine Good.back (fun _ k => XS.i2c X36.here hx rfl (hb hby at_36) rfl k) ?_
      show Good p e below _ (T36.setTop (mkF m 37 #[.val (.int p0), .val (.int p1), .val (.int p2), .val (.int p3), .val (.int (0 : Int32)), .val (.int (1 : Int32)), .unset, .unset, .unset, .unset, .unset] [(.int ((p2 &&& (255 : Int32)).toUInt32.toUInt16.toUInt32.toInt32)), (.int (0 : Int32)), (.ref b36), (.ref b36)]))
      have fc40 := f_39
      obtain ⟨cl40, Ar40, qk40, S40, N40', H40, G40⟩ := fc40
      have hin40 : ¬ ((0 : Int32) < 0 ∨ cl40.slots.size ≤ ((0 : Int32)).toNatClampNeg) := inb_of S40 ⟨by decide, by decide⟩
      obtain ⟨T40, h40, X40, e40, W40, st40⟩ := stC X36 hx hZ0 e36 Ar40 (j := (0 : Int32)) hin40 (g := (mkF m 37 #[.val (.int p0), .val (.int p1), .val (.int p2), .val (.int p3), .val (.int (0 : Int32)), .val (.int (1 : Int32)), .unset, .unset, .unset, .unset, .unset] [(.int ((p2 &&& (255 : Int32)).toUInt32.toUInt16.toUInt32.toInt32)), (.int (0 : Int32)), (.ref b36), (.ref b36)])) rfl rfl (hb hby at_37)
      refine Good.back st40 ?_
      have f_41 : Arv Z h40 b36 k36 .char (1 : Int32) [(.int (nar .char ((p2 &&& (255 : Int32)).toUInt32.toUInt16.toUInt32.toInt32)))] (.int (0 : Int32)) := Arv.set Ar40 qk40 S40 N40' H40 G40 (fits_nar_char _) W40 0 rfl (Nat.le_of_ble_eq_true rfl)
      have N40 := Fr.snoc X40 N0 g_b36
      have Z42 : n0 ≤ h40.size := Nat.le_trans Z37 (Keep.of_wr W40).1
      have hk43 := Nat.le_trans hk38 (Keep.of_wr W40).1
      show Good p e below _ (T40.setTop (mkF m 38 #[.val (.int p0), .val (.int p1), .val (.int p2), .val (.int p3), .val (.int (0 : Int32)), .val (.int (1 : Int32)), .unset, .unset, .unset, .unset, .unset] [(.ref b36)]))
      refine Good.back (fun _ k => XS.astore X40.here hx rfl (hb hby at_38) rfl rfl (l' := #[.val (.int p0), .val (.int p1), .val (.int p2), .val (.int p3), .val (.int (0 : Int32)), .val (.int (1 : Int32)), .val (.ref b36), .unset, .unset, .unset, .unset]) rfl k) ?_
      show Good p e below _ (T40.setTop (mkF m 40 #[.val (.int p0), .val (.int p1), .val (.int p2), .val (.int p3), .val (.int (0 : Int32)), .val (.int (1 : Int32)), .val (.ref b36), .unset, .unset, .unset, .unset] []))
      refine Good.back (fun _ k => XS.iconst X40.here hx rfl (hb hby at_40) k) ?_
      show Good p e below _ (T40.setTop (mkF m 41 #[.val (.int p0), .val (.int p1), .val (.int p2), .val (.int p3), .val (.int (0 : Int32)), .val (.int (1 : Int32)), .val (.ref b36), .unset, .unset, .unset, .unset] [(.int (2 : Int32))]))
      obtain ⟨T44, h44, k44, X44, e44, E44, A44, st44⟩ := newP X40 hx hZ0 (hw _ (List.mem_of_getElem? (i := 0) rfl)) e40 (g := (mkF m 41 #[.val (.int p0), .val (.int p1), .val (.int p2), .val (.int p3), .val (.int (0 : Int32)), .val (.int (1 : Int32)), .val (.ref b36), .unset, .unset, .unset, .unset] [(.int (2 : Int32))])) rfl (hb hby at_41) rfl (by decide) (cap := 2) (by decide) (by decide) (by decide) (by decide)
      obtain ⟨b44, g44⟩ : ∃ z, z = h40.size := ⟨_, rfl⟩
      rw [← g44] at A44 st44
      refine Good.back st44 ?_
      have g_b44 : n0 ≤ b44 := Nat.le_trans Z42 (Nat.le_of_eq g44.symm)
      have Z45 : n0 ≤ h44.size := Nat.le_trans Z42 E44.1
      have hk46 := Nat.le_trans hk43 E44.1
      have f_47 : Arv Z h44 b44 k44 .char (2 : Int32) [(.int (0 : Int32)), (.int (0 : Int32))] (.int (0 : Int32)) := (Arv.new A44 (by decide)).pad (pad_rep [] (.int (0 : Int32)) 2)
      show Good p e below _ (T44.setTop (mkF m 43 #[.val (.int p0), .val (.int p1), .val (.int p2), .val (.int p3), .val (.int (0 : Int32)), .val (.int (1 : Int32)), .val (.ref b36), .unset, .unset, .unset, .unset] [(.ref b44)]))
      refine Good.back (fun _ k => XS.dup X44.here hx rfl (hb hby at_43) rfl rfl k) ?_
      show Good p e below _ (T44.setTop (mkF m 44 #[.val (.int p0), .val (.int p1), .val (.int p2), .val (.int p3), .val (.int (0 : Int32)), .val (.int (1 : Int32)), .val (.ref b36), .unset, .unset, .unset, .unset] [(.ref b44), (.ref b44)]))
      refine Good.back (fun _ k => XS.iconst X44.here hx rfl (hb hby at_44) k) ?_
      show Good p e below _ (T44.setTop (mkF m 45 #[.val (.int p0), .val (.int p1), .val (.int p2), .val (.int p3), .val (.int (0 : Int32)), .val (.int (1 : Int32)), .val (.ref b36), .unset, .unset, .unset, .unset] [(.int (0 : Int32)), (.ref b44), (.ref b44)]))
      refine Good.back (fun _ k => XS.iloadN X44.here hx rfl (hb hby at_45) rfl k) ?_
      show Good p e below _ (T44.setTop (mkF m 46 #[.val (.int p0), .val (.int p1), .val (.int p2), .val (.int p3), .val (.int (0 : Int32)), .val (.int (1 : Int32)), .val (.ref b36), .unset, .unset, .unset, .unset] [(.int p1), (.int (0 : Int32)), (.ref b44), (.ref b44)]))
      refine Good.back (fun _ k => XS.sipush X44.here hx rfl (hb hby at_46) k) ?_
      show Good p e below _ (T44.setTop (mkF m 49 #[.val (.int p0), .val (.int p1), .val (.int p2), .val (.int p3), .val (.int (0 : Int32)), .val (.int (1 : Int32)), .val (.ref b36), .unset, .unset, .unset, .unset] [(.int (255 : Int32)), (.int p1), (.int (0 : Int32)), (.ref b44), (.ref b44)]))
      refine Good.back (fun _ k => XS.iand X44.here hx rfl (hb hby at_49) rfl k) ?_
      show Good p e below _ (T44.setTop (mkF m 50 #[.val (.int p0), .val (.int p1), .val (.int p2), .val (.int p3), .val (.int (0 : Int32)), .val (.int (1 : Int32)), .val (.ref b36), .unset, .unset, .unset, .unset] [(.int (p1 &&& (255 : Int32))), (.int (0 : Int32)), (.ref b44), (.ref b44)]))
      refine Good.back (fun _ k => XS.i2c X44.here hx rfl (hb hby at_50) rfl k) ?_
      show Good p e below _ (T44.setTop (mkF m 51 #[.val (.int p0), .val (.int p1), .val (.int p2), .val (.int p3), .val (.int (0 : Int32)), .val (.int (1 : Int32)), .val (.ref b36), .unset, .unset, .unset, .unset] [(.int ((p1 &&& (255 : Int32)).toUInt32.toUInt16.toUInt32.toInt32)), (.int (0 : Int32)), (.ref b44), (.ref b44)]))
      have fc48 := f_47
      obtain ⟨cl48, Ar48, qk48, S48, N48', H48, G48⟩ := fc48
      have hin48 : ¬ ((0 : Int32) < 0 ∨ cl48.slots.size ≤ ((0 : Int32)).toNatClampNeg) := inb_of S48 ⟨by decide, by decide⟩
      obtain ⟨T48, h48, X48, e48, W48, st48⟩ := stC X44 hx hZ0 e44 Ar48 (j := (0 : Int32)) hin48 (g := (mkF m 51 #[.val (.int p0), .val (.int p1), .val (.int p2), .val (.int p3), .val (.int (0 : Int32)), .val (.int (1 : Int32)), .val (.ref b36), .unset, .unset, .unset, .unset] [(.int ((p1 &&& (255 : Int32)).toUInt32.toUInt16.toUInt32.toInt32)), (.int (0 : Int32)), (.ref b44), (.ref b44)])) rfl rfl (hb hby at_51)
      refine Good.back st48 ?_
      have f_49 : Arv Z h48 b44 k44 .char (2 : Int32) [(.int (nar .char ((p1 &&& (255 : Int32)).toUInt32.toUInt16.toUInt32.toInt32))), (.int (0 : Int32))] (.int (0 : Int32)) := Arv.set Ar48 qk48 S48 N48' H48 G48 (fits_nar_char _) W48 0 rfl (Nat.le_of_ble_eq_true rfl)
      have N48 := Fr.snoc X48 N40 g_b44
      have Z50 : n0 ≤ h48.size := Nat.le_trans Z45 (Keep.of_wr W48).1
      have hk51 := Nat.le_trans hk46 (Keep.of_wr W48).1
      show Good p e below _ (T48.setTop (mkF m 52 #[.val (.int p0), .val (.int p1), .val (.int p2), .val (.int p3), .val (.int (0 : Int32)), .val (.int (1 : Int32)), .val (.ref b36), .unset, .unset, .unset, .unset] [(.ref b44)]))
      refine Good.back (fun _ k => XS.dup X48.here hx rfl (hb hby at_52) rfl rfl k) ?_
      show Good p e below _ (T48.setTop (mkF m 53 #[.val (.int p0), .val (.int p1), .val (.int p2), .val (.int p3), .val (.int (0 : Int32)), .val (.int (1 : Int32)), .val (.ref b36), .unset, .unset, .unset, .unset] [(.ref b44), (.ref b44)]))
      refine Good.back (fun _ k => XS.iconst X48.here hx rfl (hb hby at_53) k) ?_
      show Good p e below _ (T48.setTop (mkF m 54 #[.val (.int p0), .val (.int p1), .val (.int p2), .val (.int p3), .val (.int (0 : Int32)), .val (.int (1 : Int32)), .val (.ref b36), .unset, .unset, .unset, .unset] [(.int (1 : Int32)), (.ref b44), (.ref b44)]))
      refine Good.back (fun _ k => XS.iloadN X48.here hx rfl (hb hby at_54) rfl k) ?_
      show Good p e below _ (T48.setTop (mkF m 55 #[.val (.int p0), .val (.int p1), .val (.int p2), .val (.int p3), .val (.int (0 : Int32)), .val (.int (1 : Int32)), .val (.ref b36), .unset, .unset, .unset, .unset] [(.int p2), (.int (1 : Int32)), (.ref b44), (.ref b44)]))
      refine Good.back (fun _ k => XS.sipush X48.here hx rfl (hb hby at_55) k) ?_
      show Good p e below _ (T48.setTop (mkF m 58 #[.val (.int p0), .val (.int p1), .val (.int p2), .val (.int p3), .val (.int (0 : Int32)), .val (.int (1 : Int32)), .val (.ref b36), .unset, .unset, .unset, .unset] [(.int (255 : Int32)), (.int p2), (.int (1 : Int32)), (.ref b44), (.ref b44)]))
      refine Good.back (fun _ k => XS.iand X48.here hx rfl (hb hby at_58) rfl k) ?_
      show Good p e below _ (T48.setTop (mkF m 59 #[.val (.int p0), .val (.int p1), .val (.int p2), .val (.int p3), .val (.int (0 : Int32)), .val (.int (1 : Int32)), .val (.ref b36), .unset, .unset, .unset, .unset] [(.int (p2 &&& (255 : Int32))), (.int (1 : Int32)), (.ref b44), (.ref b44)]))
      refine Good.back (fun _ k => XS.i2c X48.here hx rfl (hb hby at_59) rfl k) ?_
      show Good p e below _ (T48.setTop (mkF m 60 #[.val (.int p0), .val (.int p1), .val (.int p2), .val (.int p3), .val (.int (0 : Int32)), .val (.int (1 : Int32)), .val (.ref b36), .unset, .unset, .unset, .unset] [(.int ((p2 &&& (255 : Int32)).toUInt32.toUInt16.toUInt32.toInt32)), (.int (1 : Int32)), (.ref b44), (.ref b44)]))
      have fc52 := f_49
      obtain ⟨cl52, Ar52, qk52, S52, N52', H52, G52⟩ := fc52
      have hin52 : ¬ ((1 : Int32) < 0 ∨ cl52.slots.size ≤ ((1 : Int32)).toNatClampNeg) := inb_of S52 ⟨by decide, by decide⟩
      obtain ⟨T52, h52, X52, e52, W52, st52⟩ := stC X48 hx hZ0 e48 Ar52 (j := (1 : Int32)) hin52 (g := (mkF m 60 #[.val (.int p0), .val (.int p1), .val (.int p2), .val (.int p3), .val (.int (0 : Int32)), .val (.int (1 : Int32)), .val (.ref b36), .unset, .unset, .unset, .unset] [(.int ((p2 &&& (255 : Int32)).toUInt32.toUInt16.toUInt32.toInt32)), (.int (1 : Int32)), (.ref b44), (.ref b44)])) rfl rfl (hb hby at_60)
      refine Good.back st52 ?_
      have f_53 : Arv Z h52 b44 k44 .char (2 : Int32) [(.int (nar .char ((p1 &&& (255 : Int32)).toUInt32.toUInt16.toUInt32.toInt32))), (.int (nar .char ((p2 &&& (255 : Int32)).toUInt32.toUInt16.toUInt32.toInt32)))] (.int (0 : Int32)) := Arv.set Ar52 qk52 S52 N52' H52 G52 (fits_nar_char _) W52 1 rfl (Nat.le_of_ble_eq_true rfl)
      have N52 := Fr.snoc X52 N48 g_b44
      have Z54 : n0 ≤ h52.size := Nat.le_trans Z50 (Keep.of_wr W52).1
      have hk55 := Nat.le_trans hk51 (Keep.of_wr W52).1
      show Good p e below _ (T52.setTop (mkF m 61 #[.val (.int p0), .val (.int p1), .val (.int p2), .val (.int p3), .val (.int (0 : Int32)), .val (.int (1 : Int32)), .val (.ref b36), .unset, .unset, .unset, .unset] [(.ref b44)]))
      refine Good.back (fun _ k => XS.astore X52.here hx rfl (hb hby at_61) rfl rfl (l' := #[.val (.int p0), .val (.int p1), .val (.int p2), .val (.int p3), .val (.int (0 : Int32)), .val (.int (1 : Int32)), .val (.ref b36), .val (.ref b44), .unset, .unset, .unset]) rfl k) ?_
      show Good p e below _ (T52.setTop (mkF m 63 #[.val (.int p0), .val (.int p1), .val (.int p2), .val (.int p3), .val (.int (0 : Int32)), .val (.int (1 : Int32)), .val (.ref b36), .val (.ref b44), .unset, .unset, .unset] []))
      refine Good.back (fun _ k => XS.iload X52.here hx rfl (hb hby at_63) rfl k) ?_
      show Good p e below _ (T52.setTop (mkF m 65 #[.val (.int p0), .val (.int p1), .val (.int p2), .val (.int p3), .val (.int (0 : Int32)), .val (.int (1 : Int32)), .val (.ref b36), .val (.ref b44), .unset, .unset, .unset] [(.int (0 : Int32))]))
      refine Good.back (fun _ k => XS.ifYes X52.here hx rfl (pc0 := 65) (pc' := 90) rfl (hb hby at_65) rfl ((if0 _ _).trans (teq (by decide : ((0 : Int32) = (0 : Int32)))).1) (by decide) (by decide) k) ?_
      show Good p e below _ (T52.setTop (mkF m 90 #[.val (.int p0), .val (.int p1), .val (.int p2), .val (.int p3), .val (.int (0 : Int32)), .val (.int (1 : Int32)), .val (.ref b36), .val (.ref b44), .unset, .unset, .unset] []))
      refine Good.back (fun _ k => XS.aconstNull X52.here hx rfl (hb hby at_90) k) ?_
      show Good p e below _ (T52.setTop (mkF m 91 #[.val (.int p0), .val (.int p1), .val (.int p2), .val (.int p3), .val (.int (0 : Int32)), .val (.int (1 : Int32)), .val (.ref b36), .val (.ref b44), .unset, .unset, .unset] [.null]))
      refine Good.back (fun _ k => XS.astore X52.here hx rfl (hb hby at_91) rfl rfl (l' := #[.val (.int p0), .val (.int p1), .val (.int p2), .val (.int p3), .val (.int (0 : Int32)), .val (.int (1 : Int32)), .val (.ref b36), .val (.ref b44), .val .null, .unset, .unset]) rfl k) ?_
      show Good p e below _ (T52.setTop (mkF m 93 #[.val (.int p0), .val (.int p1), .val (.int p2), .val (.int p3), .val (.int (0 : Int32)), .val (.int (1 : Int32)), .val (.ref b36), .val (.ref b44), .val .null, .unset, .unset] []))
      refine Good.back (fun _ k => XS.iload X52.here hx rfl (hb hby at_93) rfl k) ?_
      show Good p e below _ (T52.setTop (mkF m 95 #[.val (.int p0), .val (.int p1), .val (.int p2), .val (.int p3), .val (.int (0 : Int32)), .val (.int (1 : Int32)), .val (.ref b36), .val (.ref b44), .val .null, .unset, .unset] [(.int (1 : Int32))]))
      refine Good.back (fun _ k => XS.ifNo X52.here hx rfl (hb hby at_95) rfl ((if0 _ _).trans (feq (by decide : ¬ ((1 : Int32) = (0 : Int32)))).1) k) ?_
      show Good p e below _ (T52.setTop (mkF m 98 #[.val (.int p0), .val (.int p1), .val (.int p2), .val (.int p3), .val (.int (0 : Int32)), .val (.int (1 : Int32)), .val (.ref b36), .val (.ref b44), .val .null, .unset, .unset] []))
      obtain ⟨T56, h56, X56, e56, E56, A56, D56, -, st56⟩ := newO X52 hx hZ0 hown0 (hw _ (List.mem_of_getElem? (i := 12) rfl)) (hw _ (List.mem_of_getElem? (i := 6) rfl)) (hw _ (List.mem_of_getElem? (i := 5) rfl)) e52 (g := (mkF m 98 #[.val (.int p0), .val (.int p1), .val (.int p2), .val (.int p3), .val (.int (0 : Int32)), .val (.int (1 : Int32)), .val (.ref b36), .val (.ref b44), .val .null, .unset, .unset] [])) rfl (hb hby at_98) (by decide) (by decide)
      obtain ⟨b56, g56⟩ : ∃ z, z = h52.size := ⟨_, rfl⟩
      rw [← g56] at A56 D56 st56
      refine Good.back st56 ?_
      have g_b56 : n0 ≤ b56 := Nat.le_trans Z54 (Nat.le_of_eq g56.symm)
      have Z57 : n0 ≤ h56.size := Nat.le_trans Z54 E56.1
      have hk58 := Nat.le_trans hk55 E56.1
      have f_59 : Exa Z h56 b56 "java/lang/String" := A56
      have f_60 : Fld Z h56 b56 "java/lang/String" "value" "[B" .null := D56 (Or.inr (hw _ (List.mem_of_getElem? (i := 8) rfl))) (ty := (.array .byte)) (by decide)
      have f_61 : Fld Z h56 b56 "java/lang/String" "coder" "B" (.int (0 : Int32)) := D56 (Or.inr (hw _ (List.mem_of_getElem? (i := 9) rfl))) (ty := .byte) (by decide)
      show Good p e below _ (T56.setTop (mkF m 101 #[.val (.int p0), .val (.int p1), .val (.int p2), .val (.int p3), .val (.int (0 : Int32)), .val (.int (1 : Int32)), .val (.ref b36), .val (.ref b44), .val .null, .unset, .unset] [(.ref b56)]))
      refine Good.back (fun _ k => XS.dup X56.here hx rfl (hb hby at_101) rfl rfl k) ?_
      show Good p e below _ (T56.setTop (mkF m 102 #[.val (.int p0), .val (.int p1), .val (.int p2), .val (.int p3), .val (.int (0 : Int32)), .val (.int (1 : Int32)), .val (.ref b36), .val (.ref b44), .val .null, .unset, .unset] [(.ref b56), (.ref b56)]))
      refine Good.back (fun _ k => XS.aload X56.here hx rfl (hb hby at_102) rfl rfl k) ?_
      show Good p e below _ (T56.setTop (mkF m 104 #[.val (.int p0), .val (.int p1), .val (.int p2), .val (.int p3), .val (.int (0 : Int32)), .val (.int (1 : Int32)), .val (.ref b36), .val (.ref b44), .val .null, .unset, .unset] [(.ref b44), (.ref b56), (.ref b56)]))
      have f_63 : Sta Z h36 "java/lang/String" "COMPACT_STRINGS" "Z" (.int cs) := Sta.ext E36 S_cs
      have f_64 : Sta Z h40 "java/lang/String" "COMPACT_STRINGS" "Z" (.int cs) := Sta.wr W40 f_63
      have f_65 : Sta Z h44 "java/lang/String" "COMPACT_STRINGS" "Z" (.int cs) := Sta.ext E44 f_64
      have f_66 : Sta Z h48 "java/lang/String" "COMPACT_STRINGS" "Z" (.int cs) := Sta.wr W48 f_65
      have f_67 : Sta Z h52 "java/lang/String" "COMPACT_STRINGS" "Z" (.int cs) := Sta.wr W52 f_66
      have f_68 : Sta Z h56 "java/lang/String" "COMPACT_STRINGS" "Z" (.int cs) := Sta.ext E56 f_67
      have f_69 : Arv Z h56 b44 k44 .char (2 : Int32) [(.int (nar .char ((p1 &&& (255 : Int32)).toUInt32.toUInt16.toUInt32.toInt32))), (.int (nar .char ((p2 &&& (255 : Int32)).toUInt32.toUInt16.toUInt32.toInt32)))] (.int (0 : Int32)) := Arv.ext f_53 E56
      obtain ⟨_, _, ⟨T62, L62, k62, n62⟩, -, X62, ⟨Lc62, hQ62, l62, y62, z62⟩, st62⟩ := X56.specialBack hx (y := (⟨"java/lang/String", "<init>", "([C)V"⟩ : MethodName)) rfl hown0 (mvT hZ0 (hw _ (List.mem_of_getElem? (i := 13) rfl))) (mvT hZ0 (hw _ (List.mem_of_getElem? (i := 14) rfl))) (mvT hZ0 (hw _ (List.mem_of_getElem? (i := 15) rfl))) (by decide) (backOf (W := 1) (rm1n2 l Z a0 hw [] b56 b44 cs k44 (nar .char ((p1 &&& (255 : Int32)).toUInt32.toUInt16.toUInt32.toInt32)) (nar .char ((p2 &&& (255 : Int32)).toUInt32.toUInt16.toUInt32.toInt32)) h56 n0 Z57 f_68 (hcs) f_59 g_b56 f_60 f_61 f_69 (own_charN p1) (own_charN p2)) hZ0 (hw _ (List.mem_of_getElem? (i := 15) rfl)) (hw _ (List.mem_of_getElem? (i := 5) rfl)) (by decide) (by decide)) (g := (mkF m 104 #[.val (.int p0), .val (.int p1), .val (.int p2), .val (.int p3), .val (.int (0 : Int32)), .val (.int (1 : Int32)), .val (.ref b36), .val (.ref b44), .val .null, .unset, .unset] [(.ref b44), (.ref b56), (.ref b56)])) rfl (by rw [hml]; rfl) (Steps.refl _) (a := b56) (argsL := [(.ref b44)]) (rest := [(.ref b56)]) (lenOf own_pd307 rfl) rfl (by show 2 * 0 + _ ≤ _; exact Nat.le_of_eq rfl) (hb hby at_104) (fun _ _ => ⟨rfl, e56, (by decide : 3 + 1 ≤ _), (by decide : 7 + 2 ≤ _)⟩)
      dsimp only [Pt.U, Pt.locs, Pt.cells, Pt.slots] at X62 l62 y62 z62 st62 hQ62
      subst l62 y62 z62
      obtain ⟨ar_62, kb_62, rfl, N62q, Kq62, o62_0, o62_1, o62_2, o62_3, o62_4⟩ := hQ62
      have N62 := Fr.app N52 N62q
      have Z70 : n0 ≤ T62.heap.size := Nat.le_trans Z57 Kq62.1
      have hk71 := Nat.le_trans hk58 Kq62.1
      have g_ar_62 : n0 ≤ ar_62 := Nat.le_trans Z57 o62_0
      refine Good.back (fun _ k => st62.trans k) ?_
      show Good p e below _ (T62.setTop (mkF m 107 #[.val (.int p0), .val (.int p1), .val (.int p2), .val (.int p3), .val (.int (0 : Int32)), .val (.int (1 : Int32)), .val (.ref b36), .val (.ref b44), .val .null, .unset, .unset] [(.ref b56)]))
      refine Good.back (fun _ k => XS.goto X62.here hx rfl (pc0 := 107) (pc' := 111) rfl (hb hby at_107) (by decide) (by decide) k) ?_
      show Good p e below _ (T62.setTop (mkF m 111 #[.val (.int p0), .val (.int p1), .val (.int p2), .val (.int p3), .val (.int (0 : Int32)), .val (.int (1 : Int32)), .val (.ref b36), .val (.ref b44), .val .null, .unset, .unset] [(.ref b56)]))
      refine Good.back (fun _ k => XS.astore X62.here hx rfl (hb hby at_111) rfl rfl (l' := #[.val (.int p0), .val (.int p1), .val (.int p2), .val (.int p3), .val (.int (0 : Int32)), .val (.int (1 : Int32)), .val (.ref b36), .val (.ref b44), .val .null, .val (.ref b56), .unset]) rfl k) ?_
      show Good p e below _ (T62.setTop (mkF m 113 #[.val (.int p0), .val (.int p1), .val (.int p2), .val (.int p3), .val (.int (0 : Int32)), .val (.int (1 : Int32)), .val (.ref b36), .val (.ref b44), .val .null, .val (.ref b56), .unset] []))
      refine Good.back (fun _ k => XS.aload X62.here hx rfl (hb hby at_113) rfl rfl k) ?_
      show Good p e below _ (T62.setTop (mkF m 115 #[.val (.int p0), .val (.int p1), .val (.int p2), .val (.int p3), .val (.int (0 : Int32)), .val (.int (1 : Int32)), .val (.ref b36), .val (.ref b44), .val .null, .val (.ref b56), .unset] [.null]))
      refine Good.back (fun _ k => XS.aload X62.here hx rfl (hb hby at_115) rfl rfl k) ?_
      show Good p e below _ (T62.setTop (mkF m 117 #[.val (.int p0), .val (.int p1), .val (.int p2), .val (.int p3), .val (.int (0 : Int32)), .val (.int (1 : Int32)), .val (.ref b36), .val (.ref b44), .val .null, .val (.ref b56), .unset] [(.ref b56), .null]))
      obtain ⟨_, _, ⟨T72, L72, k72, n72⟩, -, X72, ⟨Lc72, hQ72, l72, y72, z72⟩, st72⟩ := Jvm.LawKit.callS X62 hx (y := (⟨"com/example/orderd/orderd/provider/Notice", "badRequest", "(Lcom/example/orderd/orderd/provider/Reply;Ljava/lang/String;)Lcom/example/orderd/orderd/provider/Notice;"⟩ : MethodName)) hown0 (mvT hZ0 (hw _ (List.mem_of_getElem? (i := 82) rfl))) (mvT hZ0 (hw _ (List.mem_of_getElem? (i := 83) rfl))) (mvT hZ0 (hw _ (List.mem_of_getElem? (i := 84) rfl))) (mvT hZ0 (hw _ (List.mem_of_getElem? (i := 85) rfl))) (by decide) (backOf (W := 0) (rm14_01 l Z a0 hw [] b56  T62.heap n0 Z70 ) hZ0 (hw _ (List.mem_of_getElem? (i := 85) rfl)) (hw _ (List.mem_of_getElem? (i := 84) rfl)) (by decide) (by decide)) (g := (mkF m 117 #[.val (.int p0), .val (.int p1), .val (.int p2), .val (.int p3), .val (.int (0 : Int32)), .val (.int (1 : Int32)), .val (.ref b36), .val (.ref b44), .val .null, .val (.ref b56), .unset] [(.ref b56), .null])) rfl (by rw [hml]; rfl) (argsL := [.null, (.ref b56)]) (rest := []) (lenOf own_pd301 rfl) rfl (by show 2 * 0 + _ ≤ _; exact Nat.le_of_eq rfl) (hb hby at_117) (fun _ _ => ⟨rfl, rfl, (by decide : 4 + 1 ≤ _), (by decide : 9 + 7 ≤ _)⟩)
      dsimp only [Pt.U, Pt.locs, Pt.cells, Pt.slots] at X72 l72 y72 z72 st72 hQ72
      subst l72 y72 z72
      obtain ⟨nr_72, rfl, N72q, Kq72, o72_0, o72_1, o72_2, o72_3, o72_4, o72_5, o72_6, o72_7, o72_8⟩ := hQ72
      have N72 := Fr.app N62 N72q
      have Z73 : n0 ≤ T72.heap.size := Nat.le_trans Z70 Kq72.1
      have hk74 := Nat.le_trans hk71 Kq72.1
      have g_nr_72 : n0 ≤ nr_72 := Nat.le_trans Z70 o72_0
      refine Good.back st72 ?_
      show Good p e below _ (T72.setTop (mkF m 120 #[.val (.int p0), .val (.int p1), .val (.int p2), .val (.int p3), .val (.int (0 : Int32)), .val (.int (1 : Int32)), .val (.ref b36), .val (.ref b44), .val .null, .val (.ref b56), .unset] [(.ref nr_72)]))
      refine Good.back (fun _ k => XS.astore X72.here hx rfl (hb hby at_120) rfl rfl (l' := #[.val (.int p0), .val (.int p1), .val (.int p2), .val (.int p3), .val (.int (0 : Int32)), .val (.int (1 : Int32)), .val (.ref b36), .val (.ref b44), .val .null, .val (.ref b56), .val (.ref nr_72)]) rfl k) ?_
      show Good p e below _ (T72.setTop (mkF m 122 #[.val (.int p0), .val (.int p1), .val (.int p2), .val (.int p3), .val (.int (0 : Int32)), .val (.int (1 : Int32)), .val (.ref b36), .val (.ref b44), .val .null, .val (.ref b56), .val (.ref nr_72)] []))
      refine Good.back (fun _ k => XS.aload X72.here hx rfl (hb hby at_122) rfl rfl k) ?_
      show Good p e below _ (T72.setTop (mkF m 124 #[.val (.int p0), .val (.int p1), .val (.int p2), .val (.int p3), .val (.int (0 : Int32)), .val (.int (1 : Int32)), .val (.ref b36), .val (.ref b44), .val .null, .val (.ref b56), .val (.ref nr_72)] [(.ref nr_72)]))
      obtain ⟨cq75, kq75, q75a, q75b, q75c⟩ := isOf hZ0 rfl o72_1
      obtain ⟨_, _, ⟨T75, L75, k75, n75⟩, -, X75, ⟨Lc75, hQ75, l75, y75, z75⟩, st75⟩ := X72.virtualBack hx (y := (⟨"com/example/orderd/orderd/provider/Notice", "isRefused", "()Z"⟩ : MethodName)) (z := (⟨"com/example/orderd/orderd/provider/Notice", "isRefused", "()Z"⟩ : MethodName)) hown0 (mvT hZ0 (hw _ (List.mem_of_getElem? (i := 106) rfl))) (mvT hZ0 (hw _ (List.mem_of_getElem? (i := 107) rfl))) (notFace_of_selects (args := #[]) (mvT hZ0 (hw _ (List.mem_of_getElem? (i := 109) rfl)))) (mvT hZ0 (hw _ (List.mem_of_getElem? (i := 109) rfl))) (mvT hZ0 (hw _ (List.mem_of_getElem? (i := 108) rfl))) (by decide) (backOf (W := 0) (rm16 l Z a0 hw [] nr_72  T72.heap n0 Z73 o72_2) hZ0 (hw _ (List.mem_of_getElem? (i := 110) rfl)) (hw _ (List.mem_of_getElem? (i := 84) rfl)) (by decide) (by decide)) q75a q75c (g := (mkF m 124 #[.val (.int p0), .val (.int p1), .val (.int p2), .val (.int p3), .val (.int (0 : Int32)), .val (.int (1 : Int32)), .val (.ref b36), .val (.ref b44), .val .null, .val (.ref b56), .val (.ref nr_72)] [(.ref nr_72)])) rfl (by rw [hml]; rfl) (Steps.refl _) (argsL := []) (rest := []) (lenOf own_pd302 rfl) rfl (by show 2 * 0 + _ ≤ _; exact Nat.le_of_eq rfl) (hb hby at_124) (fun _ _ => ⟨rfl, rfl, (by decide : 5 + 0 ≤ _), (by decide : 16 + 0 ≤ _)⟩)
      dsimp only [Pt.U, Pt.locs, Pt.cells, Pt.slots] at X75 l75 y75 z75 st75 hQ75
      subst l75 y75 z75
      obtain ⟨rfl, N75q, eh75⟩ := hQ75
      have N75 := Fr.app N72 N75q
      refine Good.back (fun _ k => st75.trans k) ?_
      show Good p e below _ (T75.setTop (mkF m 127 #[.val (.int p0), .val (.int p1), .val (.int p2), .val (.int p3), .val (.int (0 : Int32)), .val (.int (1 : Int32)), .val (.ref b36), .val (.ref b44), .val .null, .val (.ref b56), .val (.ref nr_72)] [(.int (1 : Int32))]))
      refine Good.back (fun _ k => XS.ifNo X75.here hx rfl (hb hby at_127) rfl ((if0 _ _).trans (feq (by decide : ¬ ((1 : Int32) = (0 : Int32)))).1) k) ?_
      show Good p e below _ (T75.setTop (mkF m 130 #[.val (.int p0), .val (.int p1), .val (.int p2), .val (.int p3), .val (.int (0 : Int32)), .val (.int (1 : Int32)), .val (.ref b36), .val (.ref b44), .val .null, .val (.ref b56), .val (.ref nr_72)] []))
      refine Good.back (fun _ k => XS.aload X75.here hx rfl (hb hby at_130) rfl rfl k) ?_
      show Good p e below _ (T75.setTop (mkF m 132 #[.val (.int p0), .val (.int p1), .val (.int p2), .val (.int p3), .val (.int (0 : Int32)), .val (.int (1 : Int32)), .val (.ref b36), .val (.ref b44), .val .null, .val (.ref b56), .val (.ref nr_72)] [(.ref nr_72)]))
      obtain ⟨cq76, kq76, q76a, q76b, q76c⟩ := isOf hZ0 eh75 o72_1
      obtain ⟨_, _, ⟨T76, L76, k76, n76⟩, -, X76, ⟨Lc76, hQ76, l76, y76, z76⟩, st76⟩ := X75.virtualBack hx (y := (⟨"com/example/orderd/orderd/provider/Notice", "isBadRequest", "()Z"⟩ : MethodName)) (z := (⟨"com/example/orderd/orderd/provider/Notice", "isBadRequest", "()Z"⟩ : MethodName)) hown0 (mvT hZ0 (hw _ (List.mem_of_getElem? (i := 111) rfl))) (mvT hZ0 (hw _ (List.mem_of_getElem? (i := 112) rfl))) (notFace_of_selects (args := #[]) (mvT hZ0 (hw _ (List.mem_of_getElem? (i := 114) rfl)))) (mvT hZ0 (hw _ (List.mem_of_getElem? (i := 114) rfl))) (mvT hZ0 (hw _ (List.mem_of_getElem? (i := 113) rfl))) (by decide) (backOf (W := 0) (rm17 l Z a0 hw [] nr_72  T72.heap n0 Z73 o72_8) hZ0 (hw _ (List.mem_of_getElem? (i := 115) rfl)) (hw _ (List.mem_of_getElem? (i := 84) rfl)) (by decide) (by decide)) q76a q76c (g := (mkF m 132 #[.val (.int p0), .val (.int p1), .val (.int p2), .val (.int p3), .val (.int (0 : Int32)), .val (.int (1 : Int32)), .val (.ref b36), .val (.ref b44), .val .null, .val (.ref b56), .val (.ref nr_72)] [(.ref nr_72)])) rfl (by rw [hml]; rfl) (Steps.refl _) (argsL := []) (rest := []) (lenOf own_pd302 rfl) rfl (by show 2 * 0 + _ ≤ _; exact Nat.le_of_eq rfl) (hb hby at_132) (fun _ _ => ⟨rfl, eh75, (by decide : 5 + 0 ≤ _), (by decide : 16 + 0 ≤ _)⟩)
      dsimp only [Pt.U, Pt.locs, Pt.cells, Pt.slots] at X76 l76 y76 z76 st76 hQ76
      subst l76 y76 z76
      obtain ⟨rfl, N76q, eh76⟩ := hQ76
      have N76 := Fr.app N75 N76q
      refine Good.back (fun _ k => st76.trans k) ?_
      show Good p e below _ (T76.setTop (mkF m 135 #[.val (.int p0), .val (.int p1), .val (.int p2), .val (.int p3), .val (.int (0 : Int32)), .val (.int (1 : Int32)), .val (.ref b36), .val (.ref b44), .val .null, .val (.ref b56), .val (.ref nr_72)] [(.int (1 : Int32))]))
      refine Good.back (fun _ k => XS.ifNo X76.here hx rfl (hb hby at_135) rfl ((if0 _ _).trans (feq (by decide : ¬ ((1 : Int32) = (0 : Int32)))).1) k) ?_
      show Good p e below _ (T76.setTop (mkF m 138 #[.val (.int p0), .val (.int p1), .val (.int p2), .val (.int p3), .val (.int (0 : Int32)), .val (.int (1 : Int32)), .val (.ref b36), .val (.ref b44), .val .null, .val (.ref b56), .val (.ref nr_72)] []))
      refine Good.back (fun _ k => XS.aload X76.here hx rfl (hb hby at_138) rfl rfl k) ?_
      show Good p e below _ (T76.setTop (mkF m 140 #[.val (.int p0), .val (.int p1), .val (.int p2), .val (.int p3), .val (.int (0 : Int32)), .val (.int (1 : Int32)), .val (.ref b36), .val (.ref b44), .val .null, .val (.ref b56), .val (.ref nr_72)] [(.ref nr_72)]))
      obtain ⟨cq77, kq77, q77a, q77b, q77c⟩ := isOf hZ0 eh76 o72_1
      obtain ⟨_, _, ⟨T77, L77, k77, n77⟩, -, X77, ⟨Lc77, hQ77, l77, y77, z77⟩, st77⟩ := X76.virtualBack hx (y := (⟨"com/example/orderd/orderd/provider/Notice", "isRejected", "()Z"⟩ : MethodName)) (z := (⟨"com/example/orderd/orderd/provider/Notice", "isRejected", "()Z"⟩ : MethodName)) hown0 (mvT hZ0 (hw _ (List.mem_of_getElem? (i := 116) rfl))) (mvT hZ0 (hw _ (List.mem_of_getElem? (i := 117) rfl))) (notFace_of_selects (args := #[]) (mvT hZ0 (hw _ (List.mem_of_getElem? (i := 119) rfl)))) (mvT hZ0 (hw _ (List.mem_of_getElem? (i := 119) rfl))) (mvT hZ0 (hw _ (List.mem_of_getElem? (i := 118) rfl))) (by decide) (backOf (W := 0) (rm18 l Z a0 hw [] nr_72  T72.heap n0 Z73 o72_6) hZ0 (hw _ (List.mem_of_getElem? (i := 120) rfl)) (hw _ (List.mem_of_getElem? (i := 84) rfl)) (by decide) (by decide)) q77a q77c (g := (mkF m 140 #[.val (.int p0), .val (.int p1), .val (.int p2), .val (.int p3), .val (.int (0 : Int32)), .val (.int (1 : Int32)), .val (.ref b36), .val (.ref b44), .val .null, .val (.ref b56), .val (.ref nr_72)] [(.ref nr_72)])) rfl (by rw [hml]; rfl) (Steps.refl _) (argsL := []) (rest := []) (lenOf own_pd302 rfl) rfl (by show 2 * 0 + _ ≤ _; exact Nat.le_of_eq rfl) (hb hby at_140) (fun _ _ => ⟨rfl, eh76, (by decide : 5 + 0 ≤ _), (by decide : 16 + 0 ≤ _)⟩)
      dsimp only [Pt.U, Pt.locs, Pt.cells, Pt.slots] at X77 l77 y77 z77 st77 hQ77
      subst l77 y77 z77
      obtain ⟨rfl, N77q, eh77⟩ := hQ77
      have N77 := Fr.app N76 N77q
      refine Good.back (fun _ k => st77.trans k) ?_
      show Good p e below _ (T77.setTop (mkF m 143 #[.val (.int p0), .val (.int p1), .val (.int p2), .val (.int p3), .val (.int (0 : Int32)), .val (.int (1 : Int32)), .val (.ref b36), .val (.ref b44), .val .null, .val (.ref b56), .val (.ref nr_72)] [(.int (0 : Int32))]))
      refine Good.back (fun _ k => XS.ifNo X77.here hx rfl (hb hby at_143) rfl ((if0 _ _).trans (teq (by decide : ((0 : Int32) = (0 : Int32)))).2) k) ?_
      show Good p e below _ (T77.setTop (mkF m 146 #[.val (.int p0), .val (.int p1), .val (.int p2), .val (.int p3), .val (.int (0 : Int32)), .val (.int (1 : Int32)), .val (.ref b36), .val (.ref b44), .val .null, .val (.ref b56), .val (.ref nr_72)] []))
      refine Good.back (fun _ k => XS.aload X77.here hx rfl (hb hby at_146) rfl rfl k) ?_
      show Good p e below _ (T77.setTop (mkF m 148 #[.val (.int p0), .val (.int p1), .val (.int p2), .val (.int p3), .val (.int (0 : Int32)), .val (.int (1 : Int32)), .val (.ref b36), .val (.ref b44), .val .null, .val (.ref b56), .val (.ref nr_72)] [(.ref nr_72)]))
      obtain ⟨cq78, kq78, q78a, q78b, q78c⟩ := isOf hZ0 eh77 o72_1
      obtain ⟨_, _, ⟨T78, L78, k78, n78⟩, -, X78, ⟨Lc78, hQ78, l78, y78, z78⟩, st78⟩ := X77.virtualBack hx (y := (⟨"com/example/orderd/orderd/provider/Notice", "isRefund", "()Z"⟩ : MethodName)) (z := (⟨"com/example/orderd/orderd/provider/Notice", "isRefund", "()Z"⟩ : MethodName)) hown0 (mvT hZ0 (hw _ (List.mem_of_getElem? (i := 121) rfl))) (mvT hZ0 (hw _ (List.mem_of_getElem? (i := 122) rfl))) (notFace_of_selects (args := #[]) (mvT hZ0 (hw _ (List.mem_of_getElem? (i := 124) rfl)))) (mvT hZ0 (hw _ (List.mem_of_getElem? (i := 124) rfl))) (mvT hZ0 (hw _ (List.mem_of_getElem? (i := 123) rfl))) (by decide) (backOf (W := 0) (rm19 l Z a0 hw [] nr_72  T72.heap n0 Z73 o72_3) hZ0 (hw _ (List.mem_of_getElem? (i := 125) rfl)) (hw _ (List.mem_of_getElem? (i := 84) rfl)) (by decide) (by decide)) q78a q78c (g := (mkF m 148 #[.val (.int p0), .val (.int p1), .val (.int p2), .val (.int p3), .val (.int (0 : Int32)), .val (.int (1 : Int32)), .val (.ref b36), .val (.ref b44), .val .null, .val (.ref b56), .val (.ref nr_72)] [(.ref nr_72)])) rfl (by rw [hml]; rfl) (Steps.refl _) (argsL := []) (rest := []) (lenOf own_pd302 rfl) rfl (by show 2 * 0 + _ ≤ _; exact Nat.le_of_eq rfl) (hb hby at_148) (fun _ _ => ⟨rfl, eh77, (by decide : 5 + 0 ≤ _), (by decide : 16 + 0 ≤ _)⟩)
      dsimp only [Pt.U, Pt.locs, Pt.cells, Pt.slots] at X78 l78 y78 z78 st78 hQ78
      subst l78 y78 z78
      obtain ⟨rfl, N78q, eh78⟩ := hQ78
      have N78 := Fr.app N77 N78q
      refine Good.back (fun _ k => st78.trans k) ?_
      show Good p e below _ (T78.setTop (mkF m 151 #[.val (.int p0), .val (.int p1), .val (.int p2), .val (.int p3), .val (.int (0 : Int32)), .val (.int (1 : Int32)), .val (.ref b36), .val (.ref b44), .val .null, .val (.ref b56), .val (.ref nr_72)] [(.int (0 : Int32))]))
      refine Good.back (fun _ k => XS.ifNo X78.here hx rfl (hb hby at_151) rfl ((if0 _ _).trans (teq (by decide : ((0 : Int32) = (0 : Int32)))).2) k) ?_
      show Good p e below _ (T78.setTop (mkF m 154 #[.val (.int p0), .val (.int p1), .val (.int p2), .val (.int p3), .val (.int (0 : Int32)), .val (.int (1 : Int32)), .val (.ref b36), .val (.ref b44), .val .null, .val (.ref b56), .val (.ref nr_72)] []))
      refine Good.back (fun _ k => XS.aload X78.here hx rfl (hb hby at_154) rfl rfl k) ?_
      show Good p e below _ (T78.setTop (mkF m 156 #[.val (.int p0), .val (.int p1), .val (.int p2), .val (.int p3), .val (.int (0 : Int32)), .val (.int (1 : Int32)), .val (.ref b36), .val (.ref b44), .val .null, .val (.ref b56), .val (.ref nr_72)] [(.ref nr_72)]))
      obtain ⟨cq79, kq79, q79a, q79b, q79c⟩ := isOf hZ0 eh78 o72_1
      obtain ⟨_, _, ⟨T79, L79, k79, n79⟩, -, X79, ⟨Lc79, hQ79, l79, y79, z79⟩, st79⟩ := X78.virtualBack hx (y := (⟨"com/example/orderd/orderd/provider/Notice", "order", "()Lcom/example/orderd/orderd/order/Order;"⟩ : MethodName)) (z := (⟨"com/example/orderd/orderd/provider/Notice", "order", "()Lcom/example/orderd/orderd/order/Order;"⟩ : MethodName)) hown0 (mvT hZ0 (hw _ (List.mem_of_getElem? (i := 126) rfl))) (mvT hZ0 (hw _ (List.mem_of_getElem? (i := 127) rfl))) (notFace_of_selects (args := #[]) (mvT hZ0 (hw _ (List.mem_of_getElem? (i := 129) rfl)))) (mvT hZ0 (hw _ (List.mem_of_getElem? (i := 129) rfl))) (mvT hZ0 (hw _ (List.mem_of_getElem? (i := 128) rfl))) (by decide) (backOf (W := 0) (rm20 l Z a0 hw [] nr_72  T72.heap n0 Z73 o72_2) hZ0 (hw _ (List.mem_of_getElem? (i := 130) rfl)) (hw _ (List.mem_of_getElem? (i := 84) rfl)) (by decide) (by decide)) q79a q79c (g := (mkF m 156 #[.val (.int p0), .val (.int p1), .val (.int p2), .val (.int p3), .val (.int (0 : Int32)), .val (.int (1 : Int32)), .val (.ref b36), .val (.ref b44), .val .null, .val (.ref b56), .val (.ref nr_72)] [(.ref nr_72)])) rfl (by rw [hml]; rfl) (Steps.refl _) (argsL := []) (rest := []) (lenOf own_pd303 rfl) rfl (by show 2 * 0 + _ ≤ _; exact Nat.le_of_eq rfl) (hb hby at_156) (fun _ _ => ⟨rfl, eh78, (by decide : 5 + 0 ≤ _), (by decide : 16 + 0 ≤ _)⟩)
      dsimp only [Pt.U, Pt.locs, Pt.cells, Pt.slots] at X79 l79 y79 z79 st79 hQ79
      subst l79 y79 z79
      obtain ⟨rfl, N79q, eh79⟩ := hQ79
      have N79 := Fr.app N78 N79q
      refine Good.back (fun _ k => st79.trans k) ?_
      show Good p e below _ (T79.setTop (mkF m 159 #[.val (.int p0), .val (.int p1), .val (.int p2), .val (.int p3), .val (.int (0 : Int32)), .val (.int (1 : Int32)), .val (.ref b36), .val (.ref b44), .val .null, .val (.ref b56), .val (.ref nr_72)] [.null]))
      refine Good.back (fun _ k => XS.ifnonnullNo X79.here hx rfl (hb hby at_159) rfl k) ?_
      show Good p e below _ (T79.setTop (mkF m 162 #[.val (.int p0), .val (.int p1), .val (.int p2), .val (.int p3), .val (.int (0 : Int32)), .val (.int (1 : Int32)), .val (.ref b36), .val (.ref b44), .val .null, .val (.ref b56), .val (.ref nr_72)] []))
      refine Good.back (fun _ k => XS.aload X79.here hx rfl (hb hby at_162) rfl rfl k) ?_
      show Good p e below _ (T79.setTop (mkF m 164 #[.val (.int p0), .val (.int p1), .val (.int p2), .val (.int p3), .val (.int (0 : Int32)), .val (.int (1 : Int32)), .val (.ref b36), .val (.ref b44), .val .null, .val (.ref b56), .val (.ref nr_72)] [(.ref nr_72)]))
      obtain ⟨cq80, kq80, q80a, q80b, q80c⟩ := isOf hZ0 eh79 o72_1
      obtain ⟨_, _, ⟨T80, L80, k80, n80⟩, -, X80, ⟨Lc80, hQ80, l80, y80, z80⟩, st80⟩ := X79.virtualBack hx (y := (⟨"com/example/orderd/orderd/provider/Notice", "sign", "()Ljava/lang/String;"⟩ : MethodName)) (z := (⟨"com/example/orderd/orderd/provider/Notice", "sign", "()Ljava/lang/String;"⟩ : MethodName)) hown0 (mvT hZ0 (hw _ (List.mem_of_getElem? (i := 131) rfl))) (mvT hZ0 (hw _ (List.mem_of_getElem? (i := 132) rfl))) (notFace_of_selects (args := #[]) (mvT hZ0 (hw _ (List.mem_of_getElem? (i := 134) rfl)))) (mvT hZ0 (hw _ (List.mem_of_getElem? (i := 134) rfl))) (mvT hZ0 (hw _ (List.mem_of_getElem? (i := 133) rfl))) (by decide) (backOf (W := 0) (rm21 l Z a0 hw [] nr_72  T72.heap n0 Z73 o72_4) hZ0 (hw _ (List.mem_of_getElem? (i := 135) rfl)) (hw _ (List.mem_of_getElem? (i := 84) rfl)) (by decide) (by decide)) q80a q80c (g := (mkF m 164 #[.val (.int p0), .val (.int p1), .val (.int p2), .val (.int p3), .val (.int (0 : Int32)), .val (.int (1 : Int32)), .val (.ref b36), .val (.ref b44), .val .null, .val (.ref b56), .val (.ref nr_72)] [(.ref nr_72)])) rfl (by rw [hml]; rfl) (Steps.refl _) (argsL := []) (rest := []) (lenOf own_pd304 rfl) rfl (by show 2 * 0 + _ ≤ _; exact Nat.le_of_eq rfl) (hb hby at_164) (fun _ _ => ⟨rfl, eh79, (by decide : 5 + 0 ≤ _), (by decide : 16 + 0 ≤ _)⟩)
      dsimp only [Pt.U, Pt.locs, Pt.cells, Pt.slots] at X80 l80 y80 z80 st80 hQ80
      subst l80 y80 z80
      obtain ⟨rfl, N80q, eh80⟩ := hQ80
      have N80 := Fr.app N79 N80q
      refine Good.back (fun _ k => st80.trans k) ?_
      show Good p e below _ (T80.setTop (mkF m 167 #[.val (.int p0), .val (.int p1), .val (.int p2), .val (.int p3), .val (.int (0 : Int32)), .val (.int (1 : Int32)), .val (.ref b36), .val (.ref b44), .val .null, .val (.ref b56), .val (.ref nr_72)] [.null]))
      refine Good.back (fun _ k => XS.ifnonnullNo X80.here hx rfl (hb hby at_167) rfl k) ?_
      show Good p e below _ (T80.setTop (mkF m 170 #[.val (.int p0), .val (.int p1), .val (.int p2), .val (.int p3), .val (.int (0 : Int32)), .val (.int (1 : Int32)), .val (.ref b36), .val (.ref b44), .val .null, .val (.ref b56), .val (.ref nr_72)] []))
      refine Good.back (fun _ k => XS.aload X80.here hx rfl (hb hby at_170) rfl rfl k) ?_
      show Good p e below _ (T80.setTop (mkF m 172 #[.val (.int p0), .val (.int p1), .val (.int p2), .val (.int p3), .val (.int (0 : Int32)), .val (.int (1 : Int32)), .val (.ref b36), .val (.ref b44), .val .null, .val (.ref b56), .val (.ref nr_72)] [(.ref nr_72)]))
      obtain ⟨cq81, kq81, q81a, q81b, q81c⟩ := isOf hZ0 eh80 o72_1
      obtain ⟨_, _, ⟨T81, L81, k81, n81⟩, -, X81, ⟨Lc81, hQ81, l81, y81, z81⟩, st81⟩ := X80.virtualBack hx (y := (⟨"com/example/orderd/orderd/provider/Notice", "refusal", "()Lcom/example/orderd/orderd/provider/Reply;"⟩ : MethodName)) (z := (⟨"com/example/orderd/orderd/provider/Notice", "refusal", "()Lcom/example/orderd/orderd/provider/Reply;"⟩ : MethodName)) hown0 (mvT hZ0 (hw _ (List.mem_of_getElem? (i := 136) rfl))) (mvT hZ0 (hw _ (List.mem_of_getElem? (i := 137) rfl))) (notFace_of_selects (args := #[]) (mvT hZ0 (hw _ (List.mem_of_getElem? (i := 139) rfl)))) (mvT hZ0 (hw _ (List.mem_of_getElem? (i := 139) rfl))) (mvT hZ0 (hw _ (List.mem_of_getElem? (i := 138) rfl))) (by decide) (backOf (W := 0) (rm22z l Z a0 hw [] nr_72  T72.heap n0 Z73 o72_5) hZ0 (hw _ (List.mem_of_getElem? (i := 140) rfl)) (hw _ (List.mem_of_getElem? (i := 84) rfl)) (by decide) (by decide)) q81a q81c (g := (mkF m 172 #[.val (.int p0), .val (.int p1), .val (.int p2), .val (.int p3), .val (.int (0 : Int32)), .val (.int (1 : Int32)), .val (.ref b36), .val (.ref b44), .val .null, .val (.ref b56), .val (.ref nr_72)] [(.ref nr_72)])) rfl (by rw [hml]; rfl) (Steps.refl _) (argsL := []) (rest := []) (lenOf own_pd305 rfl) rfl (by show 2 * 0 + _ ≤ _; exact Nat.le_of_eq rfl) (hb hby at_172) (fun _ _ => ⟨rfl, eh80, (by decide : 5 + 0 ≤ _), (by decide : 16 + 0 ≤ _)⟩)
      dsimp only [Pt.U, Pt.locs, Pt.cells, Pt.slots] at X81 l81 y81 z81 st81 hQ81
      subst l81 y81 z81
      obtain ⟨rfl, N81q, eh81⟩ := hQ81
      have N81 := Fr.app N80 N81q
      refine Good.back (fun _ k => st81.trans k) ?_
      show Good p e below _ (T81.setTop (mkF m 175 #[.val (.int p0), .val (.int p1), .val (.int p2), .val (.int p3), .val (.int (0 : Int32)), .val (.int (1 : Int32)), .val (.ref b36), .val (.ref b44), .val .null, .val (.ref b56), .val (.ref nr_72)] [.null]))
      refine Good.back (fun _ k => XS.aload X81.here hx rfl (hb hby at_175) rfl rfl k) ?_
      show Good p e below _ (T81.setTop (mkF m 177 #[.val (.int p0), .val (.int p1), .val (.int p2), .val (.int p3), .val (.int (0 : Int32)), .val (.int (1 : Int32)), .val (.ref b36), .val (.ref b44), .val .null, .val (.ref b56), .val (.ref nr_72)] [.null, .null]))
      refine Good.back (fun _ k => Jvm.RoadKit.acmp (g := (mkF m 177 #[.val (.int p0), .val (.int p1), .val (.int p2), .val (.int p3), .val (.int (0 : Int32)), .val (.int (1 : Int32)), .val (.ref b36), .val (.ref b44), .val .null, .val (.ref b56), .val (.ref nr_72)] [.null, .null])) X81 hx rfl rfl rfl (pc0 := 177) (pc' := 180) (same := true) rfl (hb hby at_177) rfl (decide_eq_true rfl) (by decide) (by decide) k) ?_
      show Good p e below _ (T81.setTop (mkF m 180 #[.val (.int p0), .val (.int p1), .val (.int p2), .val (.int p3), .val (.int (0 : Int32)), .val (.int (1 : Int32)), .val (.ref b36), .val (.ref b44), .val .null, .val (.ref b56), .val (.ref nr_72)] []))
      refine Good.back (fun _ k => XS.aload X81.here hx rfl (hb hby at_180) rfl rfl k) ?_
      show Good p e below _ (T81.setTop (mkF m 182 #[.val (.int p0), .val (.int p1), .val (.int p2), .val (.int p3), .val (.int (0 : Int32)), .val (.int (1 : Int32)), .val (.ref b36), .val (.ref b44), .val .null, .val (.ref b56), .val (.ref nr_72)] [(.ref nr_72)]))
      obtain ⟨cq82, kq82, q82a, q82b, q82c⟩ := isOf hZ0 eh81 o72_1
      obtain ⟨_, _, ⟨T82, L82, k82, n82⟩, -, X82, ⟨Lc82, hQ82, l82, y82, z82⟩, st82⟩ := X81.virtualBack hx (y := (⟨"com/example/orderd/orderd/provider/Notice", "rejection", "()Lcom/example/orderd/orderd/order/Rejection;"⟩ : MethodName)) (z := (⟨"com/example/orderd/orderd/provider/Notice", "rejection", "()Lcom/example/orderd/orderd/order/Rejection;"⟩ : MethodName)) hown0 (mvT hZ0 (hw _ (List.mem_of_getElem? (i := 141) rfl))) (mvT hZ0 (hw _ (List.mem_of_getElem? (i := 142) rfl))) (notFace_of_selects (args := #[]) (mvT hZ0 (hw _ (List.mem_of_getElem? (i := 144) rfl)))) (mvT hZ0 (hw _ (List.mem_of_getElem? (i := 144) rfl))) (mvT hZ0 (hw _ (List.mem_of_getElem? (i := 143) rfl))) (by decide) (backOf (W := 0) (rm23 l Z a0 hw [] nr_72  T72.heap n0 Z73 o72_6) hZ0 (hw _ (List.mem_of_getElem? (i := 145) rfl)) (hw _ (List.mem_of_getElem? (i := 84) rfl)) (by decide) (by decide)) q82a q82c (g := (mkF m 182 #[.val (.int p0), .val (.int p1), .val (.int p2), .val (.int p3), .val (.int (0 : Int32)), .val (.int (1 : Int32)), .val (.ref b36), .val (.ref b44), .val .null, .val (.ref b56), .val (.ref nr_72)] [(.ref nr_72)])) rfl (by rw [hml]; rfl) (Steps.refl _) (argsL := []) (rest := []) (lenOf own_pd306 rfl) rfl (by show 2 * 0 + _ ≤ _; exact Nat.le_of_eq rfl) (hb hby at_182) (fun _ _ => ⟨rfl, eh81, (by decide : 5 + 0 ≤ _), (by decide : 16 + 0 ≤ _)⟩)
      dsimp only [Pt.U, Pt.locs, Pt.cells, Pt.slots] at X82 l82 y82 z82 st82 hQ82
      subst l82 y82 z82
      obtain ⟨rfl, N82q, eh82⟩ := hQ82
      have N82 := Fr.app N81 N82q
      refine Good.back (fun _ k => st82.trans k) ?_
      show Good p e below _ (T82.setTop (mkF m 185 #[.val (.int p0), .val (.int p1), .val (.int p2), .val (.int p3), .val (.int (0 : Int32)), .val (.int (1 : Int32)), .val (.ref b36), .val (.ref b44), .val .null, .val (.ref b56), .val (.ref nr_72)] [.null]))
      refine Good.back (fun _ k => XS.ifnonnullNo X82.here hx rfl (hb hby at_185) rfl k) ?_
      show Good p e below _ (T82.setTop (mkF m 188 #[.val (.int p0), .val (.int p1), .val (.int p2), .val (.int p3), .val (.int (0 : Int32)), .val (.int (1 : Int32)), .val (.ref b36), .val (.ref b44), .val .null, .val (.ref b56), .val (.ref nr_72)] []))
      refine Good.back (fun _ k => XS.aload X82.here hx rfl (hb hby at_188) rfl rfl k) ?_
      show Good p e below _ (T82.setTop (mkF m 190 #[.val (.int p0), .val (.int p1), .val (.int p2), .val (.int p3), .val (.int (0 : Int32)), .val (.int (1 : Int32)), .val (.ref b36), .val (.ref b44), .val .null, .val (.ref b56), .val (.ref nr_72)] [(.ref nr_72)]))
      obtain ⟨cq83, kq83, q83a, q83b, q83c⟩ := isOf hZ0 eh82 o72_1
      obtain ⟨_, _, ⟨T83, L83, k83, n83⟩, -, X83, ⟨Lc83, hQ83, l83, y83, z83⟩, st83⟩ := X82.virtualBack hx (y := (⟨"com/example/orderd/orderd/provider/Notice", "reason", "()Ljava/lang/String;"⟩ : MethodName)) (z := (⟨"com/example/orderd/orderd/provider/Notice", "reason", "()Ljava/lang/String;"⟩ : MethodName)) hown0 (mvT hZ0 (hw _ (List.mem_of_getElem? (i := 146) rfl))) (mvT hZ0 (hw _ (List.mem_of_getElem? (i := 147) rfl))) (notFace_of_selects (args := #[]) (mvT hZ0 (hw _ (List.mem_of_getElem? (i := 149) rfl)))) (mvT hZ0 (hw _ (List.mem_of_getElem? (i := 149) rfl))) (mvT hZ0 (hw _ (List.mem_of_getElem? (i := 148) rfl))) (by decide) (backOf (W := 0) (rm24y l Z a0 hw [] nr_72 b56 T72.heap n0 Z73 o72_7) hZ0 (hw _ (List.mem_of_getElem? (i := 150) rfl)) (hw _ (List.mem_of_getElem? (i := 84) rfl)) (by decide) (by decide)) q83a q83c (g := (mkF m 190 #[.val (.int p0), .val (.int p1), .val (.int p2), .val (.int p3), .val (.int (0 : Int32)), .val (.int (1 : Int32)), .val (.ref b36), .val (.ref b44), .val .null, .val (.ref b56), .val (.ref nr_72)] [(.ref nr_72)])) rfl (by rw [hml]; rfl) (Steps.refl _) (argsL := []) (rest := []) (lenOf own_pd304 rfl) rfl (by show 2 * 0 + _ ≤ _; exact Nat.le_of_eq rfl) (hb hby at_190) (fun _ _ => ⟨rfl, eh82, (by decide : 5 + 0 ≤ _), (by decide : 16 + 0 ≤ _)⟩)
      dsimp only [Pt.U, Pt.locs, Pt.cells, Pt.slots] at X83 l83 y83 z83 st83 hQ83
      subst l83 y83 z83
      obtain ⟨rfl, N83q, eh83⟩ := hQ83
      have N83 := Fr.app N82 N83q
      refine Good.back (fun _ k => st83.trans k) ?_
      show Good p e below _ (T83.setTop (mkF m 193 #[.val (.int p0), .val (.int p1), .val (.int p2), .val (.int p3), .val (.int (0 : Int32)), .val (.int (1 : Int32)), .val (.ref b36), .val (.ref b44), .val .null, .val (.ref b56), .val (.ref nr_72)] [(.ref b56)]))
      refine Good.back (fun _ k => XS.aload X83.here hx rfl (hb hby at_193) rfl rfl k) ?_
      show Good p e below _ (T83.setTop (mkF m 195 #[.val (.int p0), .val (.int p1), .val (.int p2), .val (.int p3), .val (.int (0 : Int32)), .val (.int (1 : Int32)), .val (.ref b36), .val (.ref b44), .val .null, .val (.ref b56), .val (.ref nr_72)] [(.ref b56), (.ref b56)]))
      refine Good.back (fun _ k => Jvm.RoadKit.acmp (g := (mkF m 195 #[.val (.int p0), .val (.int p1), .val (.int p2), .val (.int p3), .val (.int (0 : Int32)), .val (.int (1 : Int32)), .val (.ref b36), .val (.ref b44), .val .null, .val (.ref b56), .val (.ref nr_72)] [(.ref b56), (.ref b56)])) X83 hx rfl rfl rfl (pc0 := 195) (pc' := 198) (same := true) rfl (hb hby at_195) rfl (decide_eq_true rfl) (by decide) (by decide) k) ?_
      show Good p e below _ (T83.setTop (mkF m 198 #[.val (.int p0), .val (.int p1), .val (.int p2), .val (.int p3), .val (.int (0 : Int32)), .val (.int (1 : Int32)), .val (.ref b36), .val (.ref b44), .val .null, .val (.ref b56), .val (.ref nr_72)] []))
      refine Good.back (fun _ k => XS.iconst X83.here hx rfl (hb hby at_198) k) ?_
      show Good p e below _ (T83.setTop (mkF m 199 #[.val (.int p0), .val (.int p1), .val (.int p2), .val (.int p3), .val (.int (0 : Int32)), .val (.int (1 : Int32)), .val (.ref b36), .val (.ref b44), .val .null, .val (.ref b56), .val (.ref nr_72)] [(.int (1 : Int32))]))
      refine Good.back (fun _ k => XS.goto X83.here hx rfl (pc0 := 199) (pc' := 203) rfl (hb hby at_199) (by decide) (by decide) k) ?_
      show Good p e below _ (T83.setTop (mkF m 203 #[.val (.int p0), .val (.int p1), .val (.int p2), .val (.int p3), .val (.int (0 : Int32)), .val (.int (1 : Int32)), .val (.ref b36), .val (.ref b44), .val .null, .val (.ref b56), .val (.ref nr_72)] [(.int (1 : Int32))]))
      obtain ⟨fs84, hr84, hrun84, hended84, hRE84⟩ := leaveW X83 hS0 (by rw [eh83]; exact hk74) (v := some (.int (1 : Int32))) (fun h => by rw [Bd.returns] at h; cases h)
      refine Good.done (retN X83 hx (t := .boolean) Bd.returns (by simp) (hb hby at_203) hr84) hrun84 hended84 ⟨_, _, rfl, ?_, hRE84.1, hRE84.2.1, hRE84.2.2.1, hRE84.2.2.2.mono (by decide) (by decide)⟩
      show Q0 Z p0 p1 p2 p3 u8 cs h0 n0 _ T83.heap _
      rw [eh83]
      exact ⟨rfl, N83⟩
  · refine Good.back (fun _ k => XS.ifNo X0c.here hx rfl (hb hby at_3) rfl ((if0 _ _).trans (feq hc3_1).1) k) ?_
    show Good p e below _ (s₁.setTop (mkF m 6 #[.val (.int p0), .val (.int p1), .val (.int p2), .val (.int p3), .unset, .unset, .unset, .unset, .unset, .unset, .unset] []))
    refine Good.back (fun _ k => XS.iconst X0c.here hx rfl (hb hby at_6) k) ?_
    show Good p e below _ (s₁.setTop (mkF m 7 #[.val (.int p0), .val (.int p1), .val (.int p2), .val (.int p3), .unset, .unset, .unset, .unset, .unset, .unset, .unset] [(.int (1 : Int32))]))
    refine Good.back (fun _ k => XS.goto X0c.here hx rfl (pc0 := 7) (pc' := 11) rfl (hb hby at_7) (by decide) (by decide) k) ?_
    show Good p e below _ (s₁.setTop (mkF m 11 #[.val (.int p0), .val (.int p1), .val (.int p2), .val (.int p3), .unset, .unset, .unset, .unset, .unset, .unset, .unset] [(.int (1 : Int32))]))
    refine Good.back (fun _ k => XS.istore X0c.here hx rfl (hb hby at_11) rfl (l' := #[.val (.int p0), .val (.int p1), .val (.int p2), .val (.int p3), .val (.int (1 : Int32)), .unset, .unset, .unset, .unset, .unset, .unset]) rfl k) ?_
    show Good p e below _ (s₁.setTop (mkF m 13 #[.val (.int p0), .val (.int p1), .val (.int p2), .val (.int p3), .val (.int (1 : Int32)), .unset, .unset, .unset, .unset, .unset, .unset] []))
    refine Good.back (fun _ k => XS.iloadN X0c.here hx rfl (hb hby at_13) rfl k) ?_
    show Good p e below _ (s₁.setTop (mkF m 14 #[.val (.int p0), .val (.int p1), .val (.int p2), .val (.int p3), .val (.int (1 : Int32)), .unset, .unset, .unset, .unset, .unset, .unset] [(.int p3)]))
    refine Good.back (fun _ k => XS.iconst X0c.here hx rfl (hb hby at_14) k) ?_
    show Good p e below _ (s₁.setTop (mkF m 15 #[.val (.int p0), .val (.int p1), .val (.int p2), .val (.int p3), .val (.int (1 : Int32)), .unset, .unset, .unset, .unset, .unset, .unset] [(.int (2 : Int32)), (.int p3)]))
    refine Good.back (fun _ k => XS.iand X0c.here hx rfl (hb hby at_15) rfl k) ?_
    show Good p e below _ (s₁.setTop (mkF m 16 #[.val (.int p0), .val (.int p1), .val (.int p2), .val (.int p3), .val (.int (1 : Int32)), .unset, .unset, .unset, .unset, .unset, .unset] [(.int (p3 &&& (2 : Int32)))]))
    by_cases hc16_85 : (p3 &&& (2 : Int32)) = (0 : Int32)
    · refine Good.back (fun _ k => XS.ifYes X0c.here hx rfl (pc0 := 16) (pc' := 23) rfl (hb hby at_16) rfl ((if0 _ _).trans (teq hc16_85).1) (by decide) (by decide) k) ?_
      show Good p e below _ (s₁.setTop (mkF m 23 #[.val (.int p0), .val (.int p1), .val (.int p2), .val (.int p3), .val (.int (1 : Int32)), .unset, .unset, .unset, .unset, .unset, .unset] []))
      refine Good.back (fun _ k => XS.iconst X0c.here hx rfl (hb hby at_23) k) ?_
      show Good p e below _ (s₁.setTop (mkF m 24 #[.val (.int p0), .val (.int p1), .val (.int p2), .val (.int p3), .val (.int (1 : Int32)), .unset, .unset, .unset, .unset, .unset, .unset] [(.int (0 : Int32))]))
      refine Good.back (fun _ k => XS.istore X0c.here hx rfl (hb hby at_24) rfl (l' := #[.val (.int p0), .val (.int p1), .val (.int p2), .val (.int p3), .val (.int (1 : Int32)), .val (.int (0 : Int32)), .unset, .unset, .unset, .unset, .unset]) rfl k) ?_
      show Good p e below _ (s₁.setTop (mkF m 26 #[.val (.int p0), .val (.int p1), .val (.int p2), .val (.int p3), .val (.int (1 : Int32)), .val (.int (0 : Int32)), .unset, .unset, .unset, .unset, .unset] []))
      refine Good.back (fun _ k => XS.iconst X0c.here hx rfl (hb hby at_26) k) ?_
      show Good p e below _ (s₁.setTop (mkF m 27 #[.val (.int p0), .val (.int p1), .val (.int p2), .val (.int p3), .val (.int (1 : Int32)), .val (.int (0 : Int32)), .unset, .unset, .unset, .unset, .unset] [(.int (1 : Int32))]))
      obtain ⟨T86, h86, k86, X86, e86, E86, A86, st86⟩ := newP X0c hx hZ0 (hw _ (List.mem_of_getElem? (i := 0) rfl)) e0 (g := (mkF m 27 #[.val (.int p0), .val (.int p1), .val (.int p2), .val (.int p3), .val (.int (1 : Int32)), .val (.int (0 : Int32)), .unset, .unset, .unset, .unset, .unset] [(.int (1 : Int32))])) rfl (hb hby at_27) rfl (by decide) (cap := 1) (by decide) (by decide) (by decide) (by decide)
      obtain ⟨b86, g86⟩ : ∃ z, z = h0.size := ⟨_, rfl⟩
      rw [← g86] at A86 st86
      refine Good.back st86 ?_
      have g_b86 : n0 ≤ b86 := Nat.le_trans Z0 (Nat.le_of_eq g86.symm)
      have Z87 : n0 ≤ h86.size := Nat.le_trans Z0 E86.1
      have hk88 := Nat.le_trans hk0 E86.1
      have f_89 : Arv Z h86 b86 k86 .char (1 : Int32) [(.int (0 : Int32))] (.int (0 : Int32)) := (Arv.new A86 (by decide)).pad (pad_rep [] (.int (0 : Int32)) 1)
      show Good p e below _ (T86.setTop (mkF m 29 #[.val (.int p0), .val (.int p1), .val (.int p2), .val (.int p3), .val (.int (1 : Int32)), .val (.int (0 : Int32)), .unset, .unset, .unset, .unset, .unset] [(.ref b86)]))
      refine Good.back (fun _ k => XS.dup X86.here hx rfl (hb hby at_29) rfl rfl k) ?_
      show Good p e below _ (T86.setTop (mkF m 30 #[.val (.int p0), .val (.int p1), .val (.int p2), .val (.int p3), .val (.int (1 : Int32)), .val (.int (0 : Int32)), .unset, .unset, .unset, .unset, .unset] [(.ref b86), (.ref b86)]))
      refine Good.back (fun _ k => XS.iconst X86.here hx rfl (hb hby at_30) k) ?_
      show Good p e below _ (T86.setTop (mkF m 31 #[.val (.int p0), .val (.int p1), .val (.int p2), .val (.int p3), .val (.int (1 : Int32)), .val (.int (0 : Int32)), .unset, .unset, .unset, .unset, .unset] [(.int (0 : Int32)), (.ref b86), (.ref b86)]))
      refine Good.back (fun _ k => XS.iloadN X86.here hx rfl (hb hby at_31) rfl k) ?_
      show Good p e below _ (T86.setTop (mkF m 32 #[.val (.int p0), .val (.int p1), .val (.int p2), .val (.int p3), .val (.int (1 : Int32)), .val (.int (0 : Int32)), .unset, .unset, .unset, .unset, .unset] [(.int p2), (.int (0 : Int32)), (.ref b86), (.ref b86)]))
      refine Good.back (fun _ k => XS.sipush X86.here hx rfl (hb hby at_32) k) ?_
      show Good p e below _ (T86.setTop (mkF m 35 #[.val (.int p0), .val (.int p1), .val (.int p2), .val (.int p3), .val (.int (1 : Int32)), .val (.int (0 : Int32)), .unset, .unset, .unset, .unset, .unset] [(.int (255 : Int32)), (.int p2), (.int (0 : Int32)), (.ref b86), (.ref b86)]))
      refine Good.back (fun _ k => XS.iand X86.here hx rfl (hb hby at_35) rfl k) ?_
      show Good p e below _ (T86.setTop (mkF m 36 #[.val (.int p0), .val (.int p1), .val (.int p2), .val (.int p3), .val (.int (1 : Int32)), .val (.int (0 : Int32)), .unset, .unset, .unset, .unset, .unset] [(.int (p2 &&& (255 : Int32))), (.int (0 : Int32)), (.ref b86), (.ref b86)]))
      refine Good.back (fun _ k => XS.i2c X86.here hx rfl (hb hby at_36) rfl k) ?_
      show Good p e below _ (T86.setTop (mkF m 37 #[.val (.int p0), .val (.int p1), .val (.int p2), .val (.int p3), .val (.int (1 : Int32)), .val (.int (0 : Int32)), .unset, .unset, .unset, .unset, .unset] [(.int ((p2 &&& (255 : Int32)).toUInt32.toUInt16.toUInt32.toInt32)), (.int (0 : Int32)), (.ref b86), (.ref b86)]))
      have fc90 := f_89
      obtain ⟨cl90, Ar90, qk90, S90, N90', H90, G90⟩ := fc90
      have hin90 : ¬ ((0 : Int32) < 0 ∨ cl90.slots.size ≤ ((0 : Int32)).toNatClampNeg) := inb_of S90 ⟨by decide, by decide⟩
      obtain ⟨T90, h90, X90, e90, W90, st90⟩ := stC X86 hx hZ0 e86 Ar90 (j := (0 : Int32)) hin90 (g := (mkF m 37 #[.val (.int p0), .val (.int p1), .val (.int p2), .val (.int p3), .val (.int (1 : Int32)), .val (.int (0 : Int32)), .unset, .unset, .unset, .unset, .unset] [(.int ((p2 &&& (255 : Int32)).toUInt32.toUInt16.toUInt32.toInt32)), (.int (0 : Int32)), (.ref b86), (.ref b86)])) rfl rfl (hb hby at_37)
      refine Good.back st90 ?_
      have f_91 : Arv Z h90 b86 k86 .char (1 : Int32) [(.int (nar .char ((p2 &&& (255 : Int32)).toUInt32.toUInt16.toUInt32.toInt32)))] (.int (0 : Int32)) := Arv.set Ar90 qk90 S90 N90' H90 G90 (fits_nar_char _) W90 0 rfl (Nat.le_of_ble_eq_true rfl)
      have N90 := Fr.snoc X90 N0 g_b86
      have Z92 : n0 ≤ h90.size := Nat.le_trans Z87 (Keep.of_wr W90).1
      have hk93 := Nat.le_trans hk88 (Keep.of_wr W90).1
      show Good p e below _ (T90.setTop (mkF m 38 #[.val (.int p0), .val (.int p1), .val (.int p2), .val (.int p3), .val (.int (1 : Int32)), .val (.int (0 : Int32)), .unset, .unset, .unset, .unset, .unset] [(.ref b86)]))
      refine Good.back (fun _ k => XS.astore X90.here hx rfl (hb hby at_38) rfl rfl (l' := #[.val (.int p0), .val (.int p1), .val (.int p2), .val (.int p3), .val (.int (1 : Int32)), .val (.int (0 : Int32)), .val (.ref b86), .unset, .unset, .unset, .unset]) rfl k) ?_
      show Good p e below _ (T90.setTop (mkF m 40 #[.val (.int p0), .val (.int p1), .val (.int p2), .val (.int p3), .val (.int (1 : Int32)), .val (.int (0 : Int32)), .val (.ref b86), .unset, .unset, .unset, .unset] []))
      refine Good.back (fun _ k => XS.iconst X90.here hx rfl (hb hby at_40) k) ?_
      show Good p e below _ (T90.setTop (mkF m 41 #[.val (.int p0), .val (.int p1), .val (.int p2), .val (.int p3), .val (.int (1 : Int32)), .val (.int (0 : Int32)), .val (.ref b86), .unset, .unset, .unset, .unset] [(.int (2 : Int32))]))
      obtain ⟨T94, h94, k94, X94, e94, E94, A94, st94⟩ := newP X90 hx hZ0 (hw _ (List.mem_of_getElem? (i := 0) rfl)) e90 (g := (mkF m 41 #[.val (.int p0), .val (.int p1), .val (.int p2), .val (.int p3), .val (.int (1 : Int32)), .val (.int (0 : Int32)), .val (.ref b86), .unset, .unset, .unset, .unset] [(.int (2 : Int32))])) rfl (hb hby at_41) rfl (by decide) (cap := 2) (by decide) (by decide) (by decide) (by decide)
      obtain ⟨b94, g94⟩ : ∃ z, z = h90.size := ⟨_, rfl⟩
      rw [← g94] at A94 st94
      refine Good.back st94 ?_
      have g_b94 : n0 ≤ b94 := Nat.le_trans Z92 (Nat.le_of_eq g94.symm)
      have Z95 : n0 ≤ h94.size := Nat.le_trans Z92 E94.1
      have hk96 := Nat.le_trans hk93 E94.1
      have f_97 : Arv Z h94 b94 k94 .char (2 : Int32) [(.int (0 : Int32)), (.int (0 : Int32))] (.int (0 : Int32)) := (Arv.new A94 (by decide)).pad (pad_rep [] (.int (0 : Int32)) 2)
      show Good p e below _ (T94.setTop (mkF m 43 #[.val (.int p0), .val (.int p1), .val (.int p2), .val (.int p3), .val (.int (1 : Int32)), .val (.int (0 : Int32)), .val (.ref b86), .unset, .unset, .unset, .unset] [(.ref b94)]))
      refine Good.back (fun _ k => XS.dup X94.here hx rfl (hb hby at_43) rfl rfl k) ?_
      show Good p e below _ (T94.setTop (mkF m 44 #[.val (.int p0), .val (.int p1), .val (.int p2), .val (.int p3), .val (.int (1 : Int32)), .val (.int (0 : Int32)), .val (.ref b86), .unset, .unset, .unset, .unset] [(.ref b94), (.ref b94)]))
      refine Good.back (fun _ k => XS.iconst X94.here hx rfl (hb hby at_44) k) ?_
      show Good p e below _ (T94.setTop (mkF m 45 #[.val (.int p0), .val (.int p1), .val (.int p2), .val (.int p3), .val (.int (1 : Int32)), .val (.int (0 : Int32)), .val (.ref b86), .unset, .unset, .unset, .unset] [(.int (0 : Int32)), (.ref b94), (.ref b94)]))
      refine Good.back (fun _ k => XS.iloadN X94.here hx rfl (hb hby at_45) rfl k) ?_
      show Good p e below _ (T94.setTop (mkF m 46 #[.val (.int p0), .val (.int p1), .val (.int p2), .val (.int p3), .val (.int (1 : Int32)), .val (.int (0 : Int32)), .val (.ref b86), .unset, .unset, .unset, .unset] [(.int p1), (.int (0 : Int32)), (.ref b94), (.ref b94)]))
      refine Good.back (fun _ k => XS.sipush X94.here hx rfl (hb hby at_46) k) ?_
      show Good p e below _ (T94.setTop (mkF m 49 #[.val (.int p0), .val (.int p1), .val (.int p2), .val (.int p3), .val (.int (1 : Int32)), .val (.int (0 : Int32)), .val (.ref b86), .unset, .unset, .unset, .unset] [(.int (255 : Int32)), (.int p1), (.int (0 : Int32)), (.ref b94), (.ref b94)]))
      refine Good.back (fun _ k => XS.iand X94.here hx rfl (hb hby at_49) rfl k) ?_
      show Good p e below _ (T94.setTop (mkF m 50 #[.val (.int p0), .val (.int p1), .val (.int p2), .val (.int p3), .val (.int (1 : Int32)), .val (.int (0 : Int32)), .val (.ref b86), .unset, .unset, .unset, .unset] [(.int (p1 &&& (255 : Int32))), (.int (0 : Int32)), (.ref b94), (.ref b94)]))
      refine Good.back (fun _ k => XS.i2c X94.here hx rfl (hb hby at_50) rfl k) ?_
      show Good p e below _ (T94.setTop (mkF m 51 #[.val (.int p0), .val (.int p1), .val (.int p2), .val (.int p3), .val (.int (1 : Int32)), .val (.int (0 : Int32)), .val (.ref b86), .unset, .unset, .unset, .unset] [(.int ((p1 &&& (255 : Int32)).toUInt32.toUInt16.toUInt32.toInt32)), (.int (0 : Int32)), (.ref b94), (.ref b94)]))
      have fc98 := f_97
      obtain ⟨cl98, Ar98, qk98, S98, N98', H98, G98⟩ := fc98
      have hin98 : ¬ ((0 : Int32) < 0 ∨ cl98.slots.size ≤ ((0 : Int32)).toNatClampNeg) := inb_of S98 ⟨by decide, by decide⟩
      obtain ⟨T98, h98, X98, e98, W98, st98⟩ := stC X94 hx hZ0 e94 Ar98 (j := (0 : Int32)) hin98 (g := (mkF m 51 #[.val (.int p0), .val (.int p1), .val (.int p2), .val (.int p3), .val (.int (1 : Int32)), .val (.int (0 : Int32)), .val (.ref b86), .unset, .unset, .unset, .unset] [(.int ((p1 &&& (255 : Int32)).toUInt32.toUInt16.toUInt32.toInt32)), (.int (0 : Int32)), (.ref b94), (.ref b94)])) rfl rfl (hb hby at_51)
      refine Good.back st98 ?_
      have f_99 : Arv Z h98 b94 k94 .char (2 : Int32) [(.int (nar .char ((p1 &&& (255 : Int32)).toUInt32.toUInt16.toUInt32.toInt32))), (.int (0 : Int32))] (.int (0 : Int32)) := Arv.set Ar98 qk98 S98 N98' H98 G98 (fits_nar_char _) W98 0 rfl (Nat.le_of_ble_eq_true rfl)
      have N98 := Fr.snoc X98 N90 g_b94
      have Z100 : n0 ≤ h98.size := Nat.le_trans Z95 (Keep.of_wr W98).1
      have hk101 := Nat.le_trans hk96 (Keep.of_wr W98).1
      show Good p e below _ (T98.setTop (mkF m 52 #[.val (.int p0), .val (.int p1), .val (.int p2), .val (.int p3), .val (.int (1 : Int32)), .val (.int (0 : Int32)), .val (.ref b86), .unset, .unset, .unset, .unset] [(.ref b94)]))
      refine Good.back (fun _ k => XS.dup X98.here hx rfl (hb hby at_52) rfl rfl k) ?_
      show Good p e below _ (T98.setTop (mkF m 53 #[.val (.int p0), .val (.int p1), .val (.int p2), .val (.int p3), .val (.int (1 : Int32)), .val (.int (0 : Int32)), .val (.ref b86), .unset, .unset, .unset, .unset] [(.ref b94), (.ref b94)]))
      refine Good.back (fun _ k => XS.iconst X98.here hx rfl (hb hby at_53) k) ?_
      show Good p e below _ (T98.setTop (mkF m 54 #[.val (.int p0), .val (.int p1), .val (.int p2), .val (.int p3), .val (.int (1 : Int32)), .val (.int (0 : Int32)), .val (.ref b86), .unset, .unset, .unset, .unset] [(.int (1 : Int32)), (.ref b94), (.ref b94)]))
      refine Good.back (fun _ k => XS.iloadN X98.here hx rfl (hb hby at_54) rfl k) ?_
      show Good p e below _ (T98.setTop (mkF m 55 #[.val (.int p0), .val (.int p1), .val (.int p2), .val (.int p3), .val (.int (1 : Int32)), .val (.int (0 : Int32)), .val (.ref b86), .unset, .unset, .unset, .unset] [(.int p2), (.int (1 : Int32)), (.ref b94), (.ref b94)]))
      refine Good.back (fun _ k => XS.sipush X98.here hx rfl (hb hby at_55) k) ?_
      show Good p e below _ (T98.setTop (mkF m 58 #[.val (.int p0), .val (.int p1), .val (.int p2), .val (.int p3), .val (.int (1 : Int32)), .val (.int (0 : Int32)), .val (.ref b86), .unset, .unset, .unset, .unset] [(.int (255 : Int32)), (.int p2), (.int (1 : Int32)), (.ref b94), (.ref b94)]))
      refine Good.back (fun _ k => XS.iand X98.here hx rfl (hb hby at_58) rfl k) ?_
      show Good p e below _ (T98.setTop (mkF m 59 #[.val (.int p0), .val (.int p1), .val (.int p2), .val (.int p3), .val (.int (1 : Int32)), .val (.int (0 : Int32)), .val (.ref b86), .unset, .unset, .unset, .unset] [(.int (p2 &&& (255 : Int32))), (.int (1 : Int32)), (.ref b94), (.ref b94)]))
      refine Good.back (fun _ k => XS.i2c X98.here hx rfl (hb hby at_59) rfl k) ?_
      show Good p e below _ (T98.setTop (mkF m 60 #[.val (.int p0), .val (.int p1), .val (.int p2), .val (.int p3), .val (.int (1 : Int32)), .val (.int (0 : Int32)), .val (.ref b86), .unset, .unset, .unset, .unset] [(.int ((p2 &&& (255 : Int32)).toUInt32.toUInt16.toUInt32.toInt32)), (.int (1 : Int32)), (.ref b94), (.ref b94)]))
      have fc102 := f_99
      obtain ⟨cl102, Ar102, qk102, S102, N102', H102, G102⟩ := fc102
      have hin102 : ¬ ((1 : Int32) < 0 ∨ cl102.slots.size ≤ ((1 : Int32)).toNatClampNeg) := inb_of S102 ⟨by decide, by decide⟩
      obtain ⟨T102, h102, X102, e102, W102, st102⟩ := stC X98 hx hZ0 e98 Ar102 (j := (1 : Int32)) hin102 (g := (mkF m 60 #[.val (.int p0), .val (.int p1), .val (.int p2), .val (.int p3), .val (.int (1 : Int32)), .val (.int (0 : Int32)), .val (.ref b86), .unset, .unset, .unset, .unset] [(.int ((p2 &&& (255 : Int32)).toUInt32.toUInt16.toUInt32.toInt32)), (.int (1 : Int32)), (.ref b94), (.ref b94)])) rfl rfl (hb hby at_60)
      refine Good.back st102 ?_
      have f_103 : Arv Z h102 b94 k94 .char (2 : Int32) [(.int (nar .char ((p1 &&& (255 : Int32)).toUInt32.toUInt16.toUInt32.toInt32))), (.int (nar .char ((p2 &&& (255 : Int32)).toUInt32.toUInt16.toUInt32.toInt32)))] (.int (0 : Int32)) := Arv.set Ar102 qk102 S102 N102' H102 G102 (fits_nar_char _) W102 1 rfl (Nat.le_of_ble_eq_true rfl)
      have N102 := Fr.snoc X102 N98 g_b94
      have Z104 : n0 ≤ h102.size := Nat.le_trans Z100 (Keep.of_wr W102).1
      have hk105 := Nat.le_trans hk101 (Keep.of_wr W102).1
      show Good p e below _ (T102.setTop (mkF m 61 #[.val (.int p0), .val (.int p1), .val (.int p2), .val (.int p3), .val (.int (1 : Int32)), .val (.int (0 : Int32)), .val (.ref b86), .unset, .unset, .unset, .unset] [(.ref b94)]))
      refine Good.back (fun _ k => XS.astore X102.here hx rfl (hb hby at_61) rfl rfl (l' := #[.val (.int p0), .val (.int p1), .val (.int p2), .val (.int p3), .val (.int (1 : Int32)), .val (.int (0 : Int32)), .val (.ref b86), .val (.ref b94), .unset, .unset, .unset]) rfl k) ?_
      show Good p e below _ (T102.setTop (mkF m 63 #[.val (.int p0), .val (.int p1), .val (.int p2), .val (.int p3), .val (.int (1 : Int32)), .val (.int (0 : Int32)), .val (.ref b86), .val (.ref b94), .unset, .unset, .unset] []))
      refine Good.back (fun _ k => XS.iload X102.here hx rfl (hb hby at_63) rfl k) ?_
      show Good p e below _ (T102.setTop (mkF m 65 #[.val (.int p0), .val (.int p1), .val (.int p2), .val (.int p3), .val (.int (1 : Int32)), .val (.int (0 : Int32)), .val (.ref b86), .val (.ref b94), .unset, .unset, .unset] [(.int (1 : Int32))]))
      refine Good.back (fun _ k => XS.ifNo X102.here hx rfl (hb hby at_65) rfl ((if0 _ _).trans (feq (by decide : ¬ ((1 : Int32) = (0 : Int32)))).1) k) ?_
      show Good p e below _ (T102.setTop (mkF m 68 #[.val (.int p0), .val (.int p1), .val (.int p2), .val (.int p3), .val (.int (1 : Int32)), .val (.int (0 : Int32)), .val (.ref b86), .val (.ref b94), .unset, .unset, .unset] []))
      obtain ⟨T106, h106, X106, e106, E106, A106, D106, -, st106⟩ := newO X102 hx hZ0 hown0 (hw _ (List.mem_of_getElem? (i := 1) rfl)) (hw _ (List.mem_of_getElem? (i := 2) rfl)) (hw _ (List.mem_of_getElem? (i := 3) rfl)) e102 (g := (mkF m 68 #[.val (.int p0), .val (.int p1), .val (.int p2), .val (.int p3), .val (.int (1 : Int32)), .val (.int (0 : Int32)), .val (.ref b86), .val (.ref b94), .unset, .unset, .unset] [])) rfl (hb hby at_68) (by decide) (by decide)
      obtain ⟨b106, g106⟩ : ∃ z, z = h102.size := ⟨_, rfl⟩
      rw [← g106] at A106 D106 st106
      refine Good.back st106 ?_
      have g_b106 : n0 ≤ b106 := Nat.le_trans Z104 (Nat.le_of_eq g106.symm)
      have Z107 : n0 ≤ h106.size := Nat.le_trans Z104 E106.1
      have hk108 := Nat.le_trans hk105 E106.1
      have f_109 : Exa Z h106 b106 "com/example/orderd/orderd/provider/Reply" := A106
      have f_110 : Fld Z h106 b106 "com/example/orderd/orderd/provider/Reply" "status" "I" (.int (0 : Int32)) := D106 (Or.inr (hw _ (List.mem_of_getElem? (i := 41) rfl))) (ty := .int) (by decide)
      have f_111 : Fld Z h106 b106 "com/example/orderd/orderd/provider/Reply" "contentType" "Ljava/lang/String;" .null := D106 (Or.inr (hw _ (List.mem_of_getElem? (i := 43) rfl))) (ty := (.object "java/lang/String")) (by decide)
      have f_112 : Fld Z h106 b106 "com/example/orderd/orderd/provider/Reply" "body" "[B" .null := D106 (Or.inr (hw _ (List.mem_of_getElem? (i := 81) rfl))) (ty := (.array .byte)) (by decide)
      show Good p e below _ (T106.setTop (mkF m 71 #[.val (.int p0), .val (.int p1), .val (.int p2), .val (.int p3), .val (.int (1 : Int32)), .val (.int (0 : Int32)), .val (.ref b86), .val (.ref b94), .unset, .unset, .unset] [(.ref b106)]))
      refine Good.back (fun _ k => XS.dup X106.here hx rfl (hb hby at_71) rfl rfl k) ?_
      show Good p e below _ (T106.setTop (mkF m 72 #[.val (.int p0), .val (.int p1), .val (.int p2), .val (.int p3), .val (.int (1 : Int32)), .val (.int (0 : Int32)), .val (.ref b86), .val (.ref b94), .unset, .unset, .unset] [(.ref b106), (.ref b106)]))
      refine Good.back (fun _ k => XS.iloadN X106.here hx rfl (hb hby at_72) rfl k) ?_
      show Good p e below _ (T106.setTop (mkF m 73 #[.val (.int p0), .val (.int p1), .val (.int p2), .val (.int p3), .val (.int (1 : Int32)), .val (.int (0 : Int32)), .val (.ref b86), .val (.ref b94), .unset, .unset, .unset] [(.int p0), (.ref b106), (.ref b106)]))
      obtain ⟨a113, T113, h113, kc113, X113, e113, E113, hS113, hk113, hZ113, hown113, st113⟩ := ldcS X106 hx hZ0 hown0 (hw _ (List.mem_of_getElem? (i := 4) rfl)) (own_wS hw) e106 hS0 hk108 (g := (mkF m 73 #[.val (.int p0), .val (.int p1), .val (.int p2), .val (.int p3), .val (.int (1 : Int32)), .val (.int (0 : Int32)), .val (.ref b86), .val (.ref b94), .unset, .unset, .unset] [(.int p0), (.ref b106), (.ref b106)])) rfl (hb hby at_73) (n := 40) (by decide +kernel) (by decide) (by decide) (by decide)
      refine Good.back st113 ?_
      have Z114 : n0 ≤ h113.size := Nat.le_trans Z107 E113.1
      have hk115 := Nat.le_trans hk108 E113.1
      show Good p e below _ (T113.setTop (mkF m 75 #[.val (.int p0), .val (.int p1), .val (.int p2), .val (.int p3), .val (.int (1 : Int32)), .val (.int (0 : Int32)), .val (.ref b86), .val (.ref b94), .unset, .unset, .unset] [(.ref a113), (.int p0), (.ref b106), (.ref b106)]))
      obtain ⟨T116, h116, X116, e116, E116, A116, D116, -, st116⟩ := newO X113 hx hZ113 hown113 (hw _ (List.mem_of_getElem? (i := 12) rfl)) (hw _ (List.mem_of_getElem? (i := 6) rfl)) (hw _ (List.mem_of_getElem? (i := 5) rfl)) e113 (g := (mkF m 75 #[.val (.int p0), .val (.int p1), .val (.int p2), .val (.int p3), .val (.int (1 : Int32)), .val (.int (0 : Int32)), .val (.ref b86), .val (.ref b94), .unset, .unset, .unset] [(.ref a113), (.int p0), (.ref b106), (.ref b106)])) rfl (hb hby at_75) (by decide) (by decide)
      obtain ⟨b116, g116⟩ : ∃ z, z = h113.size := ⟨_, rfl⟩
      rw [← g116] at A116 D116 st116
      refine Good.back st116 ?_
      have g_b116 : n0 ≤ b116 := Nat.le_trans Z114 (Nat.le_of_eq g116.symm)
      have Z117 : n0 ≤ h116.size := Nat.le_trans Z114 E116.1
      have hk118 := Nat.le_trans hk113 E116.1
      have f_119 : Exa Z h116 b116 "java/lang/String" := A116
      have f_120 : Fld Z h116 b116 "java/lang/String" "value" "[B" .null := D116 (Or.inr (hw _ (List.mem_of_getElem? (i := 8) rfl))) (ty := (.array .byte)) (by decide)
      have f_121 : Fld Z h116 b116 "java/lang/String" "coder" "B" (.int (0 : Int32)) := D116 (Or.inr (hw _ (List.mem_of_getElem? (i := 9) rfl))) (ty := .byte) (by decide)
      show Good p e below _ (T116.setTop (mkF m 78 #[.val (.int p0), .val (.int p1), .val (.int p2), .val (.int p3), .val (.int (1 : Int32)), .val (.int (0 : Int32)), .val (.ref b86), .val (.ref b94), .unset, .unset, .unset] [(.ref b116), (.ref a113), (.int p0), (.ref b106), (.ref b106)]))
      refine Good.back (fun _ k => XS.dup X116.here hx rfl (hb hby at_78) rfl rfl k) ?_
      show Good p e below _ (T116.setTop (mkF m 79 #[.val (.int p0), .val (.int p1), .val (.int p2), .val (.int p3), .val (.int (1 : Int32)), .val (.int (0 : Int32)), .val (.ref b86), .val (.ref b94), .unset, .unset, .unset] [(.ref b116), (.ref b116), (.ref a113), (.int p0), (.ref b106), (.ref b106)]))
      refine Good.back (fun _ k => XS.aload X116.here hx rfl (hb hby at_79) rfl rfl k) ?_
      show Good p e below _ (T116.setTop (mkF m 81 #[.val (.int p0), .val (.int p1), .val (.int p2), .val (.int p3), .val (.int (1 : Int32)), .val (.int (0 : Int32)), .val (.ref b86), .val (.ref b94), .unset, .unset, .unset] [(.ref b86), (.ref b116), (.ref b116), (.ref a113), (.int p0), (.ref b106), (.ref b106)]))
      have f_123 : Sta Z h86 "java/lang/String" "COMPACT_STRINGS" "Z" (.int cs) := Sta.ext E86 S_cs
      have f_124 : Sta Z h90 "java/lang/String" "COMPACT_STRINGS" "Z" (.int cs) := Sta.wr W90 f_123
      have f_125 : Sta Z h94 "java/lang/String" "COMPACT_STRINGS" "Z" (.int cs) := Sta.ext E94 f_124
      have f_126 : Sta Z h98 "java/lang/String" "COMPACT_STRINGS" "Z" (.int cs) := Sta.wr W98 f_125
      have f_127 : Sta Z h102 "java/lang/String" "COMPACT_STRINGS" "Z" (.int cs) := Sta.wr W102 f_126
      have f_128 : Sta Z h106 "java/lang/String" "COMPACT_STRINGS" "Z" (.int cs) := Sta.ext E106 f_127
      have f_129 : Sta Z h113 "java/lang/String" "COMPACT_STRINGS" "Z" (.int cs) := Sta.ext E113 f_128
      have f_130 : Sta Z h116 "java/lang/String" "COMPACT_STRINGS" "Z" (.int cs) := Sta.ext E116 f_129
      have f_131 : Arv Z h94 b86 k86 .char (1 : Int32) [(.int (nar .char ((p2 &&& (255 : Int32)).toUInt32.toUInt16.toUInt32.toInt32)))] (.int (0 : Int32)) := Arv.ext f_91 E94
      have ne_b86_b94_133 : b86 ≠ b94 := Nat.ne_of_lt (Nat.lt_of_lt_of_le f_91.lt (Nat.le_of_eq g94.symm))
      have f_132 : Arv Z h98 b86 k86 .char (1 : Int32) [(.int (nar .char ((p2 &&& (255 : Int32)).toUInt32.toUInt16.toUInt32.toInt32)))] (.int (0 : Int32)) := Arv.other f_131 W98 ne_b86_b94_133
      have f_134 : Arv Z h102 b86 k86 .char (1 : Int32) [(.int (nar .char ((p2 &&& (255 : Int32)).toUInt32.toUInt16.toUInt32.toInt32)))] (.int (0 : Int32)) := Arv.other f_132 W102 ne_b86_b94_133
      have f_135 : Arv Z h106 b86 k86 .char (1 : Int32) [(.int (nar .char ((p2 &&& (255 : Int32)).toUInt32.toUInt16.toUInt32.toInt32)))] (.int (0 : Int32)) := Arv.ext f_134 E106
      have f_136 : Arv Z h113 b86 k86 .char (1 : Int32) [(.int (nar .char ((p2 &&& (255 : Int32)).toUInt32.toUInt16.toUInt32.toInt32)))] (.int (0 : Int32)) := Arv.ext f_135 E113
      have f_137 : Arv Z h116 b86 k86 .char (1 : Int32) [(.int (nar .char ((p2 &&& (255 : Int32)).toUInt32.toUInt16.toUInt32.toInt32)))] (.int (0 : Int32)) := Arv.ext f_136 E116
      obtain ⟨_, _, ⟨T122, L122, k122, n122⟩, -, X122, ⟨Lc122, hQ122, l122, y122, z122⟩, st122⟩ := X116.specialBack hx (y := (⟨"java/lang/String", "<init>", "([C)V"⟩ : MethodName)) rfl hown113 (mvT hZ113 (hw _ (List.mem_of_getElem? (i := 13) rfl))) (mvT hZ113 (hw _ (List.mem_of_getElem? (i := 14) rfl))) (mvT hZ113 (hw _ (List.mem_of_getElem? (i := 15) rfl))) (by decide) (backOf (W := 5) (rm1n1 l Z a0 hw [] b116 b86 cs k86 (nar .char ((p2 &&& (255 : Int32)).toUInt32.toUInt16.toUInt32.toInt32)) h116 n0 Z117 f_130 (hcs) f_119 g_b116 f_120 f_121 f_137 (own_charN p2)) hZ113 (hw _ (List.mem_of_getElem? (i := 15) rfl)) (hw _ (List.mem_of_getElem? (i := 5) rfl)) (by decide) (by decide)) (g := (mkF m 81 #[.val (.int p0), .val (.int p1), .val (.int p2), .val (.int p3), .val (.int (1 : Int32)), .val (.int (0 : Int32)), .val (.ref b86), .val (.ref b94), .unset, .unset, .unset] [(.ref b86), (.ref b116), (.ref b116), (.ref a113), (.int p0), (.ref b106), (.ref b106)])) rfl (by rw [hml]; rfl) (Steps.refl _) (a := b116) (argsL := [(.ref b86)]) (rest := [(.ref b116), (.ref a113), (.int p0), (.ref b106), (.ref b106)]) (lenOf own_pd307 rfl) rfl (by show 2 * 0 + _ ≤ _; exact Nat.le_of_eq rfl) (hb hby at_81) (fun _ _ => ⟨rfl, e116, (by decide : 6 + 1 ≤ _), (by decide : 54 + 1 ≤ _)⟩)
      dsimp only [Pt.U, Pt.locs, Pt.cells, Pt.slots] at X122 l122 y122 z122 st122 hQ122
      subst l122 y122 z122
      obtain ⟨ar_122, kb_122, rfl, N122q, Kq122, o122_0, o122_1, o122_2, o122_3, o122_4⟩ := hQ122
      have N122 := Fr.app N102 N122q
      have Z138 : n0 ≤ T122.heap.size := Nat.le_trans Z117 Kq122.1
      have hk139 := Nat.le_trans hk118 Kq122.1
      have g_ar_122 : n0 ≤ ar_122 := Nat.le_trans Z117 o122_0
      refine Good.back (fun _ k => st122.trans k) ?_
      show Good p e below _ (T122.setTop (mkF m 84 #[.val (.int p0), .val (.int p1), .val (.int p2), .val (.int p3), .val (.int (1 : Int32)), .val (.int (0 : Int32)), .val (.ref b86), .val (.ref b94), .unset, .unset, .unset] [(.ref b116), (.ref a113), (.int p0), (.ref b106), (.ref b106)]))
      have f_141 : Sta Z h86 "java/nio/charset/StandardCharsets" "UTF_8" "Ljava/nio/charset/Charset;" (.ref u8) := Sta.ext E86 S_u8
      have f_142 : Sta Z h90 "java/nio/charset/StandardCharsets" "UTF_8" "Ljava/nio/charset/Charset;" (.ref u8) := Sta.wr W90 f_141
      have f_143 : Sta Z h94 "java/nio/charset/StandardCharsets" "UTF_8" "Ljava/nio/charset/Charset;" (.ref u8) := Sta.ext E94 f_142
      have f_144 : Sta Z h98 "java/nio/charset/StandardCharsets" "UTF_8" "Ljava/nio/charset/Charset;" (.ref u8) := Sta.wr W98 f_143
      have f_145 : Sta Z h102 "java/nio/charset/StandardCharsets" "UTF_8" "Ljava/nio/charset/Charset;" (.ref u8) := Sta.wr W102 f_144
      have f_146 : Sta Z h106 "java/nio/charset/StandardCharsets" "UTF_8" "Ljava/nio/charset/Charset;" (.ref u8) := Sta.ext E106 f_145
      have f_147 : Sta Z h113 "java/nio/charset/StandardCharsets" "UTF_8" "Ljava/nio/charset/Charset;" (.ref u8) := Sta.ext E113 f_146
      have f_148 : Sta Z h116 "java/nio/charset/StandardCharsets" "UTF_8" "Ljava/nio/charset/Charset;" (.ref u8) := Sta.ext E116 f_147
      have f_149 : Sta Z T122.heap "java/nio/charset/StandardCharsets" "UTF_8" "Ljava/nio/charset/Charset;" (.ref u8) := own_staKeep f_148 Kq122 (allS (own_plainE f_119) all0)
      have f_150 : Sta Z h86 "sun/nio/cs/UTF_8" "INSTANCE" "Lsun/nio/cs/UTF_8;" (.ref u8) := Sta.ext E86 S_in
      have f_151 : Sta Z h90 "sun/nio/cs/UTF_8" "INSTANCE" "Lsun/nio/cs/UTF_8;" (.ref u8) := Sta.wr W90 f_150
      have f_152 : Sta Z h94 "sun/nio/cs/UTF_8" "INSTANCE" "Lsun/nio/cs/UTF_8;" (.ref u8) := Sta.ext E94 f_151
      have f_153 : Sta Z h98 "sun/nio/cs/UTF_8" "INSTANCE" "Lsun/nio/cs/UTF_8;" (.ref u8) := Sta.wr W98 f_152
      have f_154 : Sta Z h102 "sun/nio/cs/UTF_8" "INSTANCE" "Lsun/nio/cs/UTF_8;" (.ref u8) := Sta.wr W102 f_153
      have f_155 : Sta Z h106 "sun/nio/cs/UTF_8" "INSTANCE" "Lsun/nio/cs/UTF_8;" (.ref u8) := Sta.ext E106 f_154
      have f_156 : Sta Z h113 "sun/nio/cs/UTF_8" "INSTANCE" "Lsun/nio/cs/UTF_8;" (.ref u8) := Sta.ext E113 f_155
      have f_157 : Sta Z h116 "sun/nio/cs/UTF_8" "INSTANCE" "Lsun/nio/cs/UTF_8;" (.ref u8) := Sta.ext E116 f_156
      have f_158 : Sta Z T122.heap "sun/nio/cs/UTF_8" "INSTANCE" "Lsun/nio/cs/UTF_8;" (.ref u8) := own_staKeep f_157 Kq122 (allS (own_plainE f_119) all0)
      have f_159 : Sta Z T122.heap "java/lang/String" "COMPACT_STRINGS" "Z" (.int cs) := own_staKeep f_130 Kq122 (allS (own_plainE f_119) all0)
      have f_160 : Exa Z h113 b106 "com/example/orderd/orderd/provider/Reply" := Exa.ext E113 f_109
      have f_161 : Exa Z h116 b106 "com/example/orderd/orderd/provider/Reply" := Exa.ext E116 f_160
      have f_162 : Exa Z T122.heap b106 "com/example/orderd/orderd/provider/Reply" := Exa.keep f_161 Kq122
      have f_163 : Fld Z h113 b106 "com/example/orderd/orderd/provider/Reply" "status" "I" (.int (0 : Int32)) := Fld.ext E113 f_110
      have f_164 : Fld Z h116 b106 "com/example/orderd/orderd/provider/Reply" "status" "I" (.int (0 : Int32)) := Fld.ext E116 f_163
      have f_166 : Fld Z h113 b106 "com/example/orderd/orderd/provider/Reply" "body" "[B" .null := Fld.ext E113 f_112
      have ne_b106_b116_167 : b106 ≠ b116 := Nat.ne_of_lt (Nat.lt_of_lt_of_le f_166.lt (Nat.le_of_eq g116.symm))
      have f_165 : Fld Z T122.heap b106 "com/example/orderd/orderd/provider/Reply" "status" "I" (.int (0 : Int32)) := Fld.keep f_164 Kq122 (ninS ne_b106_b116_167 nin0)
      have f_168 : Fld Z h113 b106 "com/example/orderd/orderd/provider/Reply" "contentType" "Ljava/lang/String;" .null := Fld.ext E113 f_111
      have f_169 : Fld Z h116 b106 "com/example/orderd/orderd/provider/Reply" "contentType" "Ljava/lang/String;" .null := Fld.ext E116 f_168
      have f_170 : Fld Z T122.heap b106 "com/example/orderd/orderd/provider/Reply" "contentType" "Ljava/lang/String;" .null := Fld.keep f_169 Kq122 (ninS ne_b106_b116_167 nin0)
      have f_171 : Fld Z h113 b106 "com/example/orderd/orderd/provider/Reply" "body" "[B" .null := Fld.ext E113 f_112
      have f_172 : Fld Z h116 b106 "com/example/orderd/orderd/provider/Reply" "body" "[B" .null := Fld.ext E116 f_171
      have f_173 : Fld Z T122.heap b106 "com/example/orderd/orderd/provider/Reply" "body" "[B" .null := Fld.keep f_172 Kq122 (ninS ne_b106_b116_167 nin0)
      have f_174 : Exa Z T122.heap b116 "java/lang/String" := Exa.keep f_119 Kq122
      have f_175 : Fld Z h113 b106 "com/example/orderd/orderd/provider/Reply" "body" "[B" .null := Fld.ext E113 f_112
      have f_176 : Fld Z h116 b106 "com/example/orderd/orderd/provider/Reply" "body" "[B" .null := Fld.ext E116 f_175
      have ne_b106_ar_122_177 : b106 ≠ ar_122 := Nat.ne_of_lt (Nat.lt_of_lt_of_le f_176.lt o122_0)
      obtain ⟨_, _, ⟨T140, L140, k140, n140⟩, -, X140, ⟨Lc140, hQ140, l140, y140, z140⟩, st140⟩ := X122.specialBack hx (y := (⟨"com/example/orderd/orderd/provider/Reply", "<init>", "(ILjava/lang/String;Ljava/lang/String;)V"⟩ : MethodName)) rfl hown113 (mvT hZ113 (hw _ (List.mem_of_getElem? (i := 36) rfl))) (mvT hZ113 (hw _ (List.mem_of_getElem? (i := 37) rfl))) (mvT hZ113 (hw _ (List.mem_of_getElem? (i := 38) rfl))) (by decide) (backOf (W := 1) (rm7 l Z a0 hw [] b106 p0 a113 b116 u8 cs ar_122 kb_122 (((nar .char ((p2 &&& (255 : Int32)).toUInt32.toUInt16.toUInt32.toInt32)).toInt8.toInt32).toInt8.toInt32) T122.heap n0 Z138 f_149 f_158 f_159 (hcs) f_162 g_b106 ne_b106_b116_167 ne_b106_ar_122_177 f_165 f_170 f_173 f_174 o122_1 o122_2 o122_3 o122_4) hZ113 (hw _ (List.mem_of_getElem? (i := 38) rfl)) (hw _ (List.mem_of_getElem? (i := 3) rfl)) (by decide) (by decide)) (g := (mkF m 84 #[.val (.int p0), .val (.int p1), .val (.int p2), .val (.int p3), .val (.int (1 : Int32)), .val (.int (0 : Int32)), .val (.ref b86), .val (.ref b94), .unset, .unset, .unset] [(.ref b116), (.ref a113), (.int p0), (.ref b106), (.ref b106)])) rfl (by rw [hml]; rfl) (Steps.refl _) (a := b106) (argsL := [(.int p0), (.ref a113), (.ref b116)]) (rest := [(.ref b106)]) (lenOf own_pd308 rfl) rfl (by show 2 * 0 + _ ≤ _; exact Nat.le_of_eq rfl) (hb hby at_84) (fun _ _ => ⟨rfl, rfl, (by decide : 7 + 1 ≤ _), (by decide : 55 + 2 ≤ _)⟩)
      dsimp only [Pt.U, Pt.locs, Pt.cells, Pt.slots] at X140 l140 y140 z140 st140 hQ140
      subst l140 y140 z140
      obtain ⟨rfl, N140q, Kq140⟩ := hQ140
      have N140 := Fr.app N122 N140q
      have Z178 : n0 ≤ T140.heap.size := Nat.le_trans Z138 Kq140.1
      have hk179 := Nat.le_trans hk139 Kq140.1
      refine Good.back (fun _ k => st140.trans k) ?_
      show Good p e below _ (T140.setTop (mkF m 87 #[.val (.int p0), .val (.int p1), .val (.int p2), .val (.int p3), .val (.int (1 : Int32)), .val (.int (0 : Int32)), .val (.ref b86), .val (.ref b94), .unset, .unset, .unset] [(.ref b106)]))
      refine Good.back (fun _ k => XS.goto X140.here hx rfl (pc0 := 87) (pc' := 91) rfl (hb hby at_87) (by decide) (by decide) k) ?_
      show Good p e below _ (T140.setTop (mkF m 91 #[.val (.int p0), .val (.int p1), .val (.int p2), .val (.int p3), .val (.int (1 : Int32)), .val (.int (0 : Int32)), .val (.ref b86), .val (.ref b94), .unset, .unset, .unset] [(.ref b106)]))
      refine Good.back (fun _ k => XS.astore X140.here hx rfl (hb hby at_91) rfl rfl (l' := #[.val (.int p0), .val (.int p1), .val (.int p2), .val (.int p3), .val (.int (1 : Int32)), .val (.int (0 : Int32)), .val (.ref b86), .val (.ref b94), .val (.ref b106), .unset, .unset]) rfl k) ?_
      show Good p e below _ (T140.setTop (mkF m 93 #[.val (.int p0), .val (.int p1), .val (.int p2), .val (.int p3), .val (.int (1 : Int32)), .val (.int (0 : Int32)), .val (.ref b86), .val (.ref b94), .val (.ref b106), .unset, .unset] []))
      refine Good.back (fun _ k => XS.iload X140.here hx rfl (hb hby at_93) rfl k) ?_
      show Good p e below _ (T140.setTop (mkF m 95 #[.val (.int p0), .val (.int p1), .val (.int p2), .val (.int p3), .val (.int (1 : Int32)), .val (.int (0 : Int32)), .val (.ref b86), .val (.ref b94), .val (.ref b106), .unset, .unset] [(.int (0 : Int32))]))
      refine Good.back (fun _ k => XS.ifYes X140.here hx rfl (pc0 := 95) (pc' := 110) rfl (hb hby at_95) rfl ((if0 _ _).trans (teq (by decide : ((0 : Int32) = (0 : Int32)))).1) (by decide) (by decide) k) ?_
      show Good p e below _ (T140.setTop (mkF m 110 #[.val (.int p0), .val (.int p1), .val (.int p2), .val (.int p3), .val (.int (1 : Int32)), .val (.int (0 : Int32)), .val (.ref b86), .val (.ref b94), .val (.ref b106), .unset, .unset] []))
      refine Good.back (fun _ k => XS.aconstNull X140.here hx rfl (hb hby at_110) k) ?_
      show Good p e below _ (T140.setTop (mkF m 111 #[.val (.int p0), .val (.int p1), .val (.int p2), .val (.int p3), .val (.int (1 : Int32)), .val (.int (0 : Int32)), .val (.ref b86), .val (.ref b94), .val (.ref b106), .unset, .unset] [.null]))
      refine Good.back (fun _ k => XS.astore X140.here hx rfl (hb hby at_111) rfl rfl (l' := #[.val (.int p0), .val (.int p1), .val (.int p2), .val (.int p3), .val (.int (1 : Int32)), .val (.int (0 : Int32)), .val (.ref b86), .val (.ref b94), .val (.ref b106), .val .null, .unset]) rfl k) ?_
      show Good p e below _ (T140.setTop (mkF m 113 #[.val (.int p0), .val (.int p1), .val (.int p2), .val (.int p3), .val (.int (1 : Int32)), .val (.int (0 : Int32)), .val (.ref b86), .val (.ref b94), .val (.ref b106), .val .null, .unset] []))
      refine Good.back (fun _ k => XS.aload X140.here hx rfl (hb hby at_113) rfl rfl k) ?_
      show Good p e below _ (T140.setTop (mkF m 115 #[.val (.int p0), .val (.int p1), .val (.int p2), .val (.int p3), .val (.int (1 : Int32)), .val (.int (0 : Int32)), .val (.ref b86), .val (.ref b94), .val (.ref b106), .val .null, .unset] [(.ref b106)]))
      refine Good.back (fun _ k => XS.aload X140.here hx rfl (hb hby at_115) rfl rfl k) ?_
      show Good p e below _ (T140.setTop (mkF m 117 #[.val (.int p0), .val (.int p1), .val (.int p2), .val (.int p3), .val (.int (1 : Int32)), .val (.int (0 : Int32)), .val (.ref b86), .val (.ref b94), .val (.ref b106), .val .null, .unset] [.null, (.ref b106)]))
      obtain ⟨_, _, ⟨T180, L180, k180, n180⟩, -, X180, ⟨Lc180, hQ180, l180, y180, z180⟩, st180⟩ := Jvm.LawKit.callS X140 hx (y := (⟨"com/example/orderd/orderd/provider/Notice", "badRequest", "(Lcom/example/orderd/orderd/provider/Reply;Ljava/lang/String;)Lcom/example/orderd/orderd/provider/Notice;"⟩ : MethodName)) hown113 (mvT hZ113 (hw _ (List.mem_of_getElem? (i := 82) rfl))) (mvT hZ113 (hw _ (List.mem_of_getElem? (i := 83) rfl))) (mvT hZ113 (hw _ (List.mem_of_getElem? (i := 84) rfl))) (mvT hZ113 (hw _ (List.mem_of_getElem? (i := 85) rfl))) (by decide) (backOf (W := 0) (rm14_10 l Z a0 hw [] b106  T140.heap n0 Z178 ) hZ113 (hw _ (List.mem_of_getElem? (i := 85) rfl)) (hw _ (List.mem_of_getElem? (i := 84) rfl)) (by decide) (by decide)) (g := (mkF m 117 #[.val (.int p0), .val (.int p1), .val (.int p2), .val (.int p3), .val (.int (1 : Int32)), .val (.int (0 : Int32)), .val (.ref b86), .val (.ref b94), .val (.ref b106), .val .null, .unset] [.null, (.ref b106)])) rfl (by rw [hml]; rfl) (argsL := [(.ref b106), .null]) (rest := []) (lenOf own_pd301 rfl) rfl (by show 2 * 0 + _ ≤ _; exact Nat.le_of_eq rfl) (hb hby at_117) (fun _ _ => ⟨rfl, rfl, (by decide : 8 + 1 ≤ _), (by decide : 57 + 7 ≤ _)⟩)
      dsimp only [Pt.U, Pt.locs, Pt.cells, Pt.slots] at X180 l180 y180 z180 st180 hQ180
      subst l180 y180 z180
      obtain ⟨nr_180, rfl, N180q, Kq180, o180_0, o180_1, o180_2, o180_3, o180_4, o180_5, o180_6, o180_7, o180_8⟩ := hQ180
      have N180 := Fr.app N140 N180q
      have Z181 : n0 ≤ T180.heap.size := Nat.le_trans Z178 Kq180.1
      have hk182 := Nat.le_trans hk179 Kq180.1
      have g_nr_180 : n0 ≤ nr_180 := Nat.le_trans Z178 o180_0
      refine Good.back st180 ?_
      show Good p e below _ (T180.setTop (mkF m 120 #[.val (.int p0), .val (.int p1), .val (.int p2), .val (.int p3), .val (.int (1 : Int32)), .val (.int (0 : Int32)), .val (.ref b86), .val (.ref b94), .val (.ref b106), .val .null, .unset] [(.ref nr_180)]))
      refine Good.back (fun _ k => XS.astore X180.here hx rfl (hb hby at_120) rfl rfl (l' := #[.val (.int p0), .val (.int p1), .val (.int p2), .val (.int p3), .val (.int (1 : Int32)), .val (.int (0 : Int32)), .val (.ref b86), .val (.ref b94), .val (.ref b106), .val .null, .val (.ref nr_180)]) rfl k) ?_
      show Good p e below _ (T180.setTop (mkF m 122 #[.val (.int p0), .val (.int p1), .val (.int p2), .val (.int p3), .val (.int (1 : Int32)), .val (.int (0 : Int32)), .val (.ref b86), .val (.ref b94), .val (.ref b106), .val .null, .val (.ref nr_180)] []))
      refine Good.back (fun _ k => XS.aload X180.here hx rfl (hb hby at_122) rfl rfl k) ?_
      show Good p e below _ (T180.setTop (mkF m 124 #[.val (.int p0), .val (.int p1), .val (.int p2), .val (.int p3), .val (.int (1 : Int32)), .val (.int (0 : Int32)), .val (.ref b86), .val (.ref b94), .val (.ref b106), .val .null, .val (.ref nr_180)] [(.ref nr_180)]))
      obtain ⟨cq183, kq183, q183a, q183b, q183c⟩ := isOf hZ113 rfl o180_1
      obtain ⟨_, _, ⟨T183, L183, k183, n183⟩, -, X183, ⟨Lc183, hQ183, l183, y183, z183⟩, st183⟩ := X180.virtualBack hx (y := (⟨"com/example/orderd/orderd/provider/Notice", "isRefused", "()Z"⟩ : MethodName)) (z := (⟨"com/example/orderd/orderd/provider/Notice", "isRefused", "()Z"⟩ : MethodName)) hown113 (mvT hZ113 (hw _ (List.mem_of_getElem? (i := 106) rfl))) (mvT hZ113 (hw _ (List.mem_of_getElem? (i := 107) rfl))) (notFace_of_selects (args := #[]) (mvT hZ113 (hw _ (List.mem_of_getElem? (i := 109) rfl)))) (mvT hZ113 (hw _ (List.mem_of_getElem? (i := 109) rfl))) (mvT hZ113 (hw _ (List.mem_of_getElem? (i := 108) rfl))) (by decide) (backOf (W := 0) (rm16 l Z a0 hw [] nr_180  T180.heap n0 Z181 o180_2) hZ113 (hw _ (List.mem_of_getElem? (i := 110) rfl)) (hw _ (List.mem_of_getElem? (i := 84) rfl)) (by decide) (by decide)) q183a q183c (g := (mkF m 124 #[.val (.int p0), .val (.int p1), .val (.int p2), .val (.int p3), .val (.int (1 : Int32)), .val (.int (0 : Int32)), .val (.ref b86), .val (.ref b94), .val (.ref b106), .val .null, .val (.ref nr_180)] [(.ref nr_180)])) rfl (by rw [hml]; rfl) (Steps.refl _) (argsL := []) (rest := []) (lenOf own_pd302 rfl) rfl (by show 2 * 0 + _ ≤ _; exact Nat.le_of_eq rfl) (hb hby at_124) (fun _ _ => ⟨rfl, rfl, (by decide : 9 + 0 ≤ _), (by decide : 64 + 0 ≤ _)⟩)
      dsimp only [Pt.U, Pt.locs, Pt.cells, Pt.slots] at X183 l183 y183 z183 st183 hQ183
      subst l183 y183 z183
      obtain ⟨rfl, N183q, eh183⟩ := hQ183
      have N183 := Fr.app N180 N183q
      refine Good.back (fun _ k => st183.trans k) ?_
      show Good p e below _ (T183.setTop (mkF m 127 #[.val (.int p0), .val (.int p1), .val (.int p2), .val (.int p3), .val (.int (1 : Int32)), .val (.int (0 : Int32)), .val (.ref b86), .val (.ref b94), .val (.ref b106), .val .null, .val (.ref nr_180)] [(.int (1 : Int32))]))
      refine Good.back (fun _ k => XS.ifNo X183.here hx rfl (hb hby at_127) rfl ((if0 _ _).trans (feq (by decide : ¬ ((1 : Int32) = (0 : Int32)))).1) k) ?_
      show Good p e below _ (T183.setTop (mkF m 130 #[.val (.int p0), .val (.int p1), .val (.int p2), .val (.int p3), .val (.int (1 : Int32)), .val (.int (0 : Int32)), .val (.ref b86), .val (.ref b94), .val (.ref b106), .val .null, .val (.ref nr_180)] []))
      refine Good.back (fun _ k => XS.aload X183.here hx rfl (hb hby at_130) rfl rfl k) ?_
      show Good p e below _ (T183.setTop (mkF m 132 #[.val (.int p0), .val (.int p1), .val (.int p2), .val (.int p3), .val (.int (1 : Int32)), .val (.int (0 : Int32)), .val (.ref b86), .val (.ref b94), .val (.ref b106), .val .null, .val (.ref nr_180)] [(.ref nr_180)]))
      obtain ⟨cq184, kq184, q184a, q184b, q184c⟩ := isOf hZ113 eh183 o180_1
      obtain ⟨_, _, ⟨T184, L184, k184, n184⟩, -, X184, ⟨Lc184, hQ184, l184, y184, z184⟩, st184⟩ := X183.virtualBack hx (y := (⟨"com/example/orderd/orderd/provider/Notice", "isBadRequest", "()Z"⟩ : MethodName)) (z := (⟨"com/example/orderd/orderd/provider/Notice", "isBadRequest", "()Z"⟩ : MethodName)) hown113 (mvT hZ113 (hw _ (List.mem_of_getElem? (i := 111) rfl))) (mvT hZ113 (hw _ (List.mem_of_getElem? (i := 112) rfl))) (notFace_of_selects (args := #[]) (mvT hZ113 (hw _ (List.mem_of_getElem? (i := 114) rfl)))) (mvT hZ113 (hw _ (List.mem_of_getElem? (i := 114) rfl))) (mvT hZ113 (hw _ (List.mem_of_getElem? (i := 113) rfl))) (by decide) (backOf (W := 0) (rm17 l Z a0 hw [] nr_180  T180.heap n0 Z181 o180_8) hZ113 (hw _ (List.mem_of_getElem? (i := 115) rfl)) (hw _ (List.mem_of_getElem? (i := 84) rfl)) (by decide) (by decide)) q184a q184c (g := (mkF m 132 #[.val (.int p0), .val (.int p1), .val (.int p2), .val (.int p3), .val (.int (1 : Int32)), .val (.int (0 : Int32)), .val (.ref b86), .val (.ref b94), .val (.ref b106), .val .null, .val (.ref nr_180)] [(.ref nr_180)])) rfl (by rw [hml]; rfl) (Steps.refl _) (argsL := []) (rest := []) (lenOf own_pd302 rfl) rfl (by show 2 * 0 + _ ≤ _; exact Nat.le_of_eq rfl) (hb hby at_132) (fun _ _ => ⟨rfl, eh183, (by decide : 9 + 0 ≤ _), (by decide : 64 + 0 ≤ _)⟩)
      dsimp only [Pt.U, Pt.locs, Pt.cells, Pt.slots] at X184 l184 y184 z184 st184 hQ184
      subst l184 y184 z184
      obtain ⟨rfl, N184q, eh184⟩ := hQ184
      have N184 := Fr.app N183 N184q
      refine Good.back (fun _ k => st184.trans k) ?_
      show Good p e below _ (T184.setTop (mkF m 135 #[.val (.int p0), .val (.int p1), .val (.int p2), .val (.int p3), .val (.int (1 : Int32)), .val (.int (0 : Int32)), .val (.ref b86), .val (.ref b94), .val (.ref b106), .val .null, .val (.ref nr_180)] [(.int (1 : Int32))]))
      refine Good.back (fun _ k => XS.ifNo X184.here hx rfl (hb hby at_135) rfl ((if0 _ _).trans (feq (by decide : ¬ ((1 : Int32) = (0 : Int32)))).1) k) ?_
      show Good p e below _ (T184.setTop (mkF m 138 #[.val (.int p0), .val (.int p1), .val (.int p2), .val (.int p3), .val (.int (1 : Int32)), .val (.int (0 : Int32)), .val (.ref b86), .val (.ref b94), .val (.ref b106), .val .null, .val (.ref nr_180)] []))
      refine Good.back (fun _ k => XS.aload X184.here hx rfl (hb hby at_138) rfl rfl k) ?_
      show Good p e below _ (T184.setTop (mkF m 140 #[.val (.int p0), .val (.int p1), .val (.int p2), .val (.int p3), .val (.int (1 : Int32)), .val (.int (0 : Int32)), .val (.ref b86), .val (.ref b94), .val (.ref b106), .val .null, .val (.ref nr_180)] [(.ref nr_180)]))
      obtain ⟨cq185, kq185, q185a, q185b, q185c⟩ := isOf hZ113 eh184 o180_1
      obtain ⟨_, _, ⟨T185, L185, k185, n185⟩, -, X185, ⟨Lc185, hQ185, l185, y185, z185⟩, st185⟩ := X184.virtualBack hx (y := (⟨"com/example/orderd/orderd/provider/Notice", "isRejected", "()Z"⟩ : MethodName)) (z := (⟨"com/example/orderd/orderd/provider/Notice", "isRejected", "()Z"⟩ : MethodName)) hown113 (mvT hZ113 (hw _ (List.mem_of_getElem? (i := 116) rfl))) (mvT hZ113 (hw _ (List.mem_of_getElem? (i := 117) rfl))) (notFace_of_selects (args := #[]) (mvT hZ113 (hw _ (List.mem_of_getElem? (i := 119) rfl)))) (mvT hZ113 (hw _ (List.mem_of_getElem? (i := 119) rfl))) (mvT hZ113 (hw _ (List.mem_of_getElem? (i := 118) rfl))) (by decide) (backOf (W := 0) (rm18 l Z a0 hw [] nr_180  T180.heap n0 Z181 o180_6) hZ113 (hw _ (List.mem_of_getElem? (i := 120) rfl)) (hw _ (List.mem_of_getElem? (i := 84) rfl)) (by decide) (by decide)) q185a q185c (g := (mkF m 140 #[.val (.int p0), .val (.int p1), .val (.int p2), .val (.int p3), .val (.int (1 : Int32)), .val (.int (0 : Int32)), .val (.ref b86), .val (.ref b94), .val (.ref b106), .val .null, .val (.ref nr_180)] [(.ref nr_180)])) rfl (by rw [hml]; rfl) (Steps.refl _) (argsL := []) (rest := []) (lenOf own_pd302 rfl) rfl (by show 2 * 0 + _ ≤ _; exact Nat.le_of_eq rfl) (hb hby at_140) (fun _ _ => ⟨rfl, eh184, (by decide : 9 + 0 ≤ _), (by decide : 64 + 0 ≤ _)⟩)
      dsimp only [Pt.U, Pt.locs, Pt.cells, Pt.slots] at X185 l185 y185 z185 st185 hQ185
      subst l185 y185 z185
      obtain ⟨rfl, N185q, eh185⟩ := hQ185
      have N185 := Fr.app N184 N185q
      refine Good.back (fun _ k => st185.trans k) ?_
      show Good p e below _ (T185.setTop (mkF m 143 #[.val (.int p0), .val (.int p1), .val (.int p2), .val (.int p3), .val (.int (1 : Int32)), .val (.int (0 : Int32)), .val (.ref b86), .val (.ref b94), .val (.ref b106), .val .null, .val (.ref nr_180)] [(.int (0 : Int32))]))
      refine Good.back (fun _ k => XS.ifNo X185.here hx rfl (hb hby at_143) rfl ((if0 _ _).trans (teq (by decide : ((0 : Int32) = (0 : Int32)))).2) k) ?_
      show Good p e below _ (T185.setTop (mkF m 146 #[.val (.int p0), .val (.int p1), .val (.int p2), .val (.int p3), .val (.int (1 : Int32)), .val (.int (0 : Int32)), .val (.ref b86), .val (.ref b94), .val (.ref b106), .val .null, .val (.ref nr_180)] []))
      refine Good.back (fun _ k => XS.aload X185.here hx rfl (hb hby at_146) rfl rfl k) ?_
      show Good p e below _ (T185.setTop (mkF m 148 #[.val (.int p0), .val (.int p1), .val (.int p2), .val (.int p3), .val (.int (1 : Int32)), .val (.int (0 : Int32)), .val (.ref b86), .val (.ref b94), .val (.ref b106), .val .null, .val (.ref nr_180)] [(.ref nr_180)]))
      obtain ⟨cq186, kq186, q186a, q186b, q186c⟩ := isOf hZ113 eh185 o180_1
      obtain ⟨_, _, ⟨T186, L186, k186, n186⟩, -, X186, ⟨Lc186, hQ186, l186, y186, z186⟩, st186⟩ := X185.virtualBack hx (y := (⟨"com/example/orderd/orderd/provider/Notice", "isRefund", "()Z"⟩ : MethodName)) (z := (⟨"com/example/orderd/orderd/provider/Notice", "isRefund", "()Z"⟩ : MethodName)) hown113 (mvT hZ113 (hw _ (List.mem_of_getElem? (i := 121) rfl))) (mvT hZ113 (hw _ (List.mem_of_getElem? (i := 122) rfl))) (notFace_of_selects (args := #[]) (mvT hZ113 (hw _ (List.mem_of_getElem? (i := 124) rfl)))) (mvT hZ113 (hw _ (List.mem_of_getElem? (i := 124) rfl))) (mvT hZ113 (hw _ (List.mem_of_getElem? (i := 123) rfl))) (by decide) (backOf (W := 0) (rm19 l Z a0 hw [] nr_180  T180.heap n0 Z181 o180_3) hZ113 (hw _ (List.mem_of_getElem? (i := 125) rfl)) (hw _ (List.mem_of_getElem? (i := 84) rfl)) (by decide) (by decide)) q186a q186c (g := (mkF m 148 #[.val (.int p0), .val (.int p1), .val (.int p2), .val (.int p3), .val (.int (1 : Int32)), .val (.int (0 : Int32)), .val (.ref b86), .val (.ref b94), .val (.ref b106), .val .null, .val (.ref nr_180)] [(.ref nr_180)])) rfl (by rw [hml]; rfl) (Steps.refl _) (argsL := []) (rest := []) (lenOf own_pd302 rfl) rfl (by show 2 * 0 + _ ≤ _; exact Nat.le_of_eq rfl) (hb hby at_148) (fun _ _ => ⟨rfl, eh185, (by decide : 9 + 0 ≤ _), (by decide : 64 + 0 ≤ _)⟩)
      dsimp only [Pt.U, Pt.locs, Pt.cells, Pt.slots] at X186 l186 y186 z186 st186 hQ186
      subst l186 y186 z186
      obtain ⟨rfl, N186q, eh186⟩ := hQ186
      have N186 := Fr.app N185 N186q
      refine Good.back (fun _ k => st186.trans k) ?_
      show Good p e below _ (T186.setTop (mkF m 151 #[.val (.int p0), .val (.int p1), .val (.int p2), .val (.int p3), .val (.int (1 : Int32)), .val (.int (0 : Int32)), .val (.ref b86), .val (.ref b94), .val (.ref b106), .val .null, .val (.ref nr_180)] [(.int (0 : Int32))]))
      refine Good.back (fun _ k => XS.ifNo X186.here hx rfl (hb hby at_151) rfl ((if0 _ _).trans (teq (by decide : ((0 : Int32) = (0 : Int32)))).2) k) ?_
      show Good p e below _ (T186.setTop (mkF m 154 #[.val (.int p0), .val (.int p1), .val (.int p2), .val (.int p3), .val (.int (1 : Int32)), .val (.int (0 : Int32)), .val (.ref b86), .val (.ref b94), .val (.ref b106), .val .null, .val (.ref nr_180)] []))
      refine Good.back (fun _ k => XS.aload X186.here hx rfl (hb hby at_154) rfl rfl k) ?_
      show Good p e below _ (T186.setTop (mkF m 156 #[.val (.int p0), .val (.int p1), .val (.int p2), .val (.int p3), .val (.int (1 : Int32)), .val (.int (0 : Int32)), .val (.ref b86), .val (.ref b94), .val (.ref b106), .val .null, .val (.ref nr_180)] [(.ref nr_180)]))
      obtain ⟨cq187, kq187, q187a, q187b, q187c⟩ := isOf hZ113 eh186 o180_1
      obtain ⟨_, _, ⟨T187, L187, k187, n187⟩, -, X187, ⟨Lc187, hQ187, l187, y187, z187⟩, st187⟩ := X186.virtualBack hx (y := (⟨"com/example/orderd/orderd/provider/Notice", "order", "()Lcom/example/orderd/orderd/order/Order;"⟩ : MethodName)) (z := (⟨"com/example/orderd/orderd/provider/Notice", "order", "()Lcom/example/orderd/orderd/order/Order;"⟩ : MethodName)) hown113 (mvT hZ113 (hw _ (List.mem_of_getElem? (i := 126) rfl))) (mvT hZ113 (hw _ (List.mem_of_getElem? (i := 127) rfl))) (notFace_of_selects (args := #[]) (mvT hZ113 (hw _ (List.mem_of_getElem? (i := 129) rfl)))) (mvT hZ113 (hw _ (List.mem_of_getElem? (i := 129) rfl))) (mvT hZ113 (hw _ (List.mem_of_getElem? (i := 128) rfl))) (by decide) (backOf (W := 0) (rm20 l Z a0 hw [] nr_180  T180.heap n0 Z181 o180_2) hZ113 (hw _ (List.mem_of_getElem? (i := 130) rfl)) (hw _ (List.mem_of_getElem? (i := 84) rfl)) (by decide) (by decide)) q187a q187c (g := (mkF m 156 #[.val (.int p0), .val (.int p1), .val (.int p2), .val (.int p3), .val (.int (1 : Int32)), .val (.int (0 : Int32)), .val (.ref b86), .val (.ref b94), .val (.ref b106), .val .null, .val (.ref nr_180)] [(.ref nr_180)])) rfl (by rw [hml]; rfl) (Steps.refl _) (argsL := []) (rest := []) (lenOf own_pd303 rfl) rfl (by show 2 * 0 + _ ≤ _; exact Nat.le_of_eq rfl) (hb hby at_156) (fun _ _ => ⟨rfl, eh186, (by decide : 9 + 0 ≤ _), (by decide : 64 + 0 ≤ _)⟩)
      dsimp only [Pt.U, Pt.locs, Pt.cells, Pt.slots] at X187 l187 y187 z187 st187 hQ187
      subst l187 y187 z187
      obtain ⟨rfl, N187q, eh187⟩ := hQ187
      have N187 := Fr.app N186 N187q
      refine Good.back (fun _ k => st187.trans k) ?_
      show Good p e below _ (T187.setTop (mkF m 159 #[.val (.int p0), .val (.int p1), .val (.int p2), .val (.int p3), .val (.int (1 : Int32)), .val (.int (0 : Int32)), .val (.ref b86), .val (.ref b94), .val (.ref b106), .val .null, .val (.ref nr_180)] [.null]))
      refine Good.back (fun _ k => XS.ifnonnullNo X187.here hx rfl (hb hby at_159) rfl k) ?_
      show Good p e below _ (T187.setTop (mkF m 162 #[.val (.int p0), .val (.int p1), .val (.int p2), .val (.int p3), .val (.int (1 : Int32)), .val (.int (0 : Int32)), .val (.ref b86), .val (.ref b94), .val (.ref b106), .val .null, .val (.ref nr_180)] []))
      refine Good.back (fun _ k => XS.aload X187.here hx rfl (hb hby at_162) rfl rfl k) ?_
      show Good p e below _ (T187.setTop (mkF m 164 #[.val (.int p0), .val (.int p1), .val (.int p2), .val (.int p3), .val (.int (1 : Int32)), .val (.int (0 : Int32)), .val (.ref b86), .val (.ref b94), .val (.ref b106), .val .null, .val (.ref nr_180)] [(.ref nr_180)]))
      obtain ⟨cq188, kq188, q188a, q188b, q188c⟩ := isOf hZ113 eh187 o180_1
      obtain ⟨_, _, ⟨T188, L188, k188, n188⟩, -, X188, ⟨Lc188, hQ188, l188, y188, z188⟩, st188⟩ := X187.virtualBack hx (y := (⟨"com/example/orderd/orderd/provider/Notice", "sign", "()Ljava/lang/String;"⟩ : MethodName)) (z := (⟨"com/example/orderd/orderd/provider/Notice", "sign", "()Ljava/lang/String;"⟩ : MethodName)) hown113 (mvT hZ113 (hw _ (List.mem_of_getElem? (i := 131) rfl))) (mvT hZ113 (hw _ (List.mem_of_getElem? (i := 132) rfl))) (notFace_of_selects (args := #[]) (mvT hZ113 (hw _ (List.mem_of_getElem? (i := 134) rfl)))) (mvT hZ113 (hw _ (List.mem_of_getElem? (i := 134) rfl))) (mvT hZ113 (hw _ (List.mem_of_getElem? (i := 133) rfl))) (by decide) (backOf (W := 0) (rm21 l Z a0 hw [] nr_180  T180.heap n0 Z181 o180_4) hZ113 (hw _ (List.mem_of_getElem? (i := 135) rfl)) (hw _ (List.mem_of_getElem? (i := 84) rfl)) (by decide) (by decide)) q188a q188c (g := (mkF m 164 #[.val (.int p0), .val (.int p1), .val (.int p2), .val (.int p3), .val (.int (1 : Int32)), .val (.int (0 : Int32)), .val (.ref b86), .val (.ref b94), .val (.ref b106), .val .null, .val (.ref nr_180)] [(.ref nr_180)])) rfl (by rw [hml]; rfl) (Steps.refl _) (argsL := []) (rest := []) (lenOf own_pd304 rfl) rfl (by show 2 * 0 + _ ≤ _; exact Nat.le_of_eq rfl) (hb hby at_164) (fun _ _ => ⟨rfl, eh187, (by decide : 9 + 0 ≤ _), (by decide : 64 + 0 ≤ _)⟩)
      dsimp only [Pt.U, Pt.locs, Pt.cells, Pt.slots] at X188 l188 y188 z188 st188 hQ188
      subst l188 y188 z188
      obtain ⟨rfl, N188q, eh188⟩ := hQ188
      have N188 := Fr.app N187 N188q
      refine Good.back (fun _ k => st188.trans k) ?_
      show Good p e below _ (T188.setTop (mkF m 167 #[.val (.int p0), .val (.int p1), .val (.int p2), .val (.int p3), .val (.int (1 : Int32)), .val (.int (0 : Int32)), .val (.ref b86), .val (.ref b94), .val (.ref b106), .val .null, .val (.ref nr_180)] [.null]))
      refine Good.back (fun _ k => XS.ifnonnullNo X188.here hx rfl (hb hby at_167) rfl k) ?_
      show Good p e below _ (T188.setTop (mkF m 170 #[.val (.int p0), .val (.int p1), .val (.int p2), .val (.int p3), .val (.int (1 : Int32)), .val (.int (0 : Int32)), .val (.ref b86), .val (.ref b94), .val (.ref b106), .val .null, .val (.ref nr_180)] []))
      refine Good.back (fun _ k => XS.aload X188.here hx rfl (hb hby at_170) rfl rfl k) ?_
      show Good p e below _ (T188.setTop (mkF m 172 #[.val (.int p0), .val (.int p1), .val (.int p2), .val (.int p3), .val (.int (1 : Int32)), .val (.int (0 : Int32)), .val (.ref b86), .val (.ref b94), .val (.ref b106), .val .null, .val (.ref nr_180)] [(.ref nr_180)]))
      obtain ⟨cq189, kq189, q189a, q189b, q189c⟩ := isOf hZ113 eh188 o180_1
      obtain ⟨_, _, ⟨T189, L189, k189, n189⟩, -, X189, ⟨Lc189, hQ189, l189, y189, z189⟩, st189⟩ := X188.virtualBack hx (y := (⟨"com/example/orderd/orderd/provider/Notice", "refusal", "()Lcom/example/orderd/orderd/provider/Reply;"⟩ : MethodName)) (z := (⟨"com/example/orderd/orderd/provider/Notice", "refusal", "()Lcom/example/orderd/orderd/provider/Reply;"⟩ : MethodName)) hown113 (mvT hZ113 (hw _ (List.mem_of_getElem? (i := 136) rfl))) (mvT hZ113 (hw _ (List.mem_of_getElem? (i := 137) rfl))) (notFace_of_selects (args := #[]) (mvT hZ113 (hw _ (List.mem_of_getElem? (i := 139) rfl)))) (mvT hZ113 (hw _ (List.mem_of_getElem? (i := 139) rfl))) (mvT hZ113 (hw _ (List.mem_of_getElem? (i := 138) rfl))) (by decide) (backOf (W := 0) (rm22y l Z a0 hw [] nr_180 b106 T180.heap n0 Z181 o180_5) hZ113 (hw _ (List.mem_of_getElem? (i := 140) rfl)) (hw _ (List.mem_of_getElem? (i := 84) rfl)) (by decide) (by decide)) q189a q189c (g := (mkF m 172 #[.val (.int p0), .val (.int p1), .val (.int p2), .val (.int p3), .val (.int (1 : Int32)), .val (.int (0 : Int32)), .val (.ref b86), .val (.ref b94), .val (.ref b106), .val .null, .val (.ref nr_180)] [(.ref nr_180)])) rfl (by rw [hml]; rfl) (Steps.refl _) (argsL := []) (rest := []) (lenOf own_pd305 rfl) rfl (by show 2 * 0 + _ ≤ _; exact Nat.le_of_eq rfl) (hb hby at_172) (fun _ _ => ⟨rfl, eh188, (by decide : 9 + 0 ≤ _), (by decide : 64 + 0 ≤ _)⟩)
      dsimp only [Pt.U, Pt.locs, Pt.cells, Pt.slots] at X189 l189 y189 z189 st189 hQ189
      subst l189 y189 z189
      obtain ⟨rfl, N189q, eh189⟩ := hQ189
      have N189 := Fr.app N188 N189q
      refine Good.back (fun _ k => st189.trans k) ?_
      show Good p e below _ (T189.setTop (mkF m 175 #[.val (.int p0), .val (.int p1), .val (.int p2), .val (.int p3), .val (.int (1 : Int32)), .val (.int (0 : Int32)), .val (.ref b86), .val (.ref b94), .val (.ref b106), .val .null, .val (.ref nr_180)] [(.ref b106)]))
      refine Good.back (fun _ k => XS.aload X189.here hx rfl (hb hby at_175) rfl rfl k) ?_
      show Good p e below _ (T189.setTop (mkF m 177 #[.val (.int p0), .val (.int p1), .val (.int p2), .val (.int p3), .val (.int (1 : Int32)), .val (.int (0 : Int32)), .val (.ref b86), .val (.ref b94), .val (.ref b106), .val .null, .val (.ref nr_180)] [(.ref b106), (.ref b106)]))
      refine Good.back (fun _ k => Jvm.RoadKit.acmp (g := (mkF m 177 #[.val (.int p0), .val (.int p1), .val (.int p2), .val (.int p3), .val (.int (1 : Int32)), .val (.int (0 : Int32)), .val (.ref b86), .val (.ref b94), .val (.ref b106), .val .null, .val (.ref nr_180)] [(.ref b106), (.ref b106)])) X189 hx rfl rfl rfl (pc0 := 177) (pc' := 180) (same := true) rfl (hb hby at_177) rfl (decide_eq_true rfl) (by decide) (by decide) k) ?_
      show Good p e below _ (T189.setTop (mkF m 180 #[.val (.int p0), .val (.int p1), .val (.int p2), .val (.int p3), .val (.int (1 : Int32)), .val (.int (0 : Int32)), .val (.ref b86), .val (.ref b94), .val (.ref b106), .val .null, .val (.ref nr_180)] []))
      refine Good.back (fun _ k => XS.aload X189.here hx rfl (hb hby at_180) rfl rfl k) ?_
      show Good p e below _ (T189.setTop (mkF m 182 #[.val (.int p0), .val (.int p1), .val (.int p2), .val (.int p3), .val (.int (1 : Int32)), .val (.int (0 : Int32)), .val (.ref b86), .val (.ref b94), .val (.ref b106), .val .null, .val (.ref nr_180)] [(.ref nr_180)]))
      obtain ⟨cq190, kq190, q190a, q190b, q190c⟩ := isOf hZ113 eh189 o180_1
      obtain ⟨_, _, ⟨T190, L190, k190, n190⟩, -, X190, ⟨Lc190, hQ190, l190, y190, z190⟩, st190⟩ := X189.virtualBack hx (y := (⟨"com/example/orderd/orderd/provider/Notice", "rejection", "()Lcom/example/orderd/orderd/order/Rejection;"⟩ : MethodName)) (z := (⟨"com/example/orderd/orderd/provider/Notice", "rejection", "()Lcom/example/orderd/orderd/order/Rejection;"⟩ : MethodName)) hown113 (mvT hZ113 (hw _ (List.mem_of_getElem? (i := 141) rfl))) (mvT hZ113 (hw _ (List.mem_of_getElem? (i := 142) rfl))) (notFace_of_selects (args := #[]) (mvT hZ113 (hw _ (List.mem_of_getElem? (i := 144) rfl)))) (mvT hZ113 (hw _ (List.mem_of_getElem? (i := 144) rfl))) (mvT hZ113 (hw _ (List.mem_of_getElem? (i := 143) rfl))) (by decide) (backOf (W := 0) (rm23 l Z a0 hw [] nr_180  T180.heap n0 Z181 o180_6) hZ113 (hw _ (List.mem_of_getElem? (i := 145) rfl)) (hw _ (List.mem_of_getElem? (i := 84) rfl)) (by decide) (by decide)) q190a q190c (g := (mkF m 182 #[.val (.int p0), .val (.int p1), .val (.int p2), .val (.int p3), .val (.int (1 : Int32)), .val (.int (0 : Int32)), .val (.ref b86), .val (.ref b94), .val (.ref b106), .val .null, .val (.ref nr_180)] [(.ref nr_180)])) rfl (by rw [hml]; rfl) (Steps.refl _) (argsL := []) (rest := []) (lenOf own_pd306 rfl) rfl (by show 2 * 0 + _ ≤ _; exact Nat.le_of_eq rfl) (hb hby at_182) (fun _ _ => ⟨rfl, eh189, (by decide : 9 + 0 ≤ _), (by decide : 64 + 0 ≤ _)⟩)
      dsimp only [Pt.U, Pt.locs, Pt.cells, Pt.slots] at X190 l190 y190 z190 st190 hQ190
      subst l190 y190 z190
      obtain ⟨rfl, N190q, eh190⟩ := hQ190
      have N190 := Fr.app N189 N190q
      refine Good.back (fun _ k => st190.trans k) ?_
      show Good p e below _ (T190.setTop (mkF m 185 #[.val (.int p0), .val (.int p1), .val (.int p2), .val (.int p3), .val (.int (1 : Int32)), .val (.int (0 : Int32)), .val (.ref b86), .val (.ref b94), .val (.ref b106), .val .null, .val (.ref nr_180)] [.null]))
      refine Good.back (fun _ k => XS.ifnonnullNo X190.here hx rfl (hb hby at_185) rfl k) ?_
      show Good p e below _ (T190.setTop (mkF m 188 #[.val (.int p0), .val (.int p1), .val (.int p2), .val (.int p3), .val (.int (1 : Int32)), .val (.int (0 : Int32)), .val (.ref b86), .val (.ref b94), .val (.ref b106), .val .null, .val (.ref nr_180)] []))
      refine Good.back (fun _ k => XS.aload X190.here hx rfl (hb hby at_188) rfl rfl k) ?_
      show Good p e below _ (T190.setTop (mkF m 190 #[.val (.int p0), .val (.int p1), .val (.int p2), .val (.int p3), .val (.int (1 : Int32)), .val (.int (0 : Int32)), .val (.ref b86), .val (.ref b94), .val (.ref b106), .val .null, .val (.ref nr_180)] [(.ref nr_180)]))
      obtain ⟨cq191, kq191, q191a, q191b, q191c⟩ := isOf hZ113 eh190 o180_1
      obtain ⟨_, _, ⟨T191, L191, k191, n191⟩, -, X191, ⟨Lc191, hQ191, l191, y191, z191⟩, st191⟩ := X190.virtualBack hx (y := (⟨"com/example/orderd/orderd/provider/Notice", "reason", "()Ljava/lang/String;"⟩ : MethodName)) (z := (⟨"com/example/orderd/orderd/provider/Notice", "reason", "()Ljava/lang/String;"⟩ : MethodName)) hown113 (mvT hZ113 (hw _ (List.mem_of_getElem? (i := 146) rfl))) (mvT hZ113 (hw _ (List.mem_of_getElem? (i := 147) rfl))) (notFace_of_selects (args := #[]) (mvT hZ113 (hw _ (List.mem_of_getElem? (i := 149) rfl)))) (mvT hZ113 (hw _ (List.mem_of_getElem? (i := 149) rfl))) (mvT hZ113 (hw _ (List.mem_of_getElem? (i := 148) rfl))) (by decide) (backOf (W := 0) (rm24z l Z a0 hw [] nr_180  T180.heap n0 Z181 o180_7) hZ113 (hw _ (List.mem_of_getElem? (i := 150) rfl)) (hw _ (List.mem_of_getElem? (i := 84) rfl)) (by decide) (by decide)) q191a q191c (g := (mkF m 190 #[.val (.int p0), .val (.int p1), .val (.int p2), .val (.int p3), .val (.int (1 : Int32)), .val (.int (0 : Int32)), .val (.ref b86), .val (.ref b94), .val (.ref b106), .val .null, .val (.ref nr_180)] [(.ref nr_180)])) rfl (by rw [hml]; rfl) (Steps.refl _) (argsL := []) (rest := []) (lenOf own_pd304 rfl) rfl (by show 2 * 0 + _ ≤ _; exact Nat.le_of_eq rfl) (hb hby at_190) (fun _ _ => ⟨rfl, eh190, (by decide : 9 + 0 ≤ _), (by decide : 64 + 0 ≤ _)⟩)
      dsimp only [Pt.U, Pt.locs, Pt.cells, Pt.slots] at X191 l191 y191 z191 st191 hQ191
      subst l191 y191 z191
      obtain ⟨rfl, N191q, eh191⟩ := hQ191
      have N191 := Fr.app N190 N191q
      refine Good.back (fun _ k => st191.trans k) ?_
      show Good p e below _ (T191.setTop (mkF m 193 #[.val (.int p0), .val (.int p1), .val (.int p2), .val (.int p3), .val (.int (1 : Int32)), .val (.int (0 : Int32)), .val (.ref b86), .val (.ref b94), .val (.ref b106), .val .null, .val (.ref nr_180)] [.null]))
      refine Good.back (fun _ k => XS.aload X191.here hx rfl (hb hby at_193) rfl rfl k) ?_
      show Good p e below _ (T191.setTop (mkF m 195 #[.val (.int p0), .val (.int p1), .val (.int p2), .val (.int p3), .val (.int (1 : Int32)), .val (.int (0 : Int32)), .val (.ref b86), .val (.ref b94), .val (.ref b106), .val .null, .val (.ref nr_180)] [.null, .null]))
      refine Good.back (fun _ k => Jvm.RoadKit.acmp (g := (mkF m 195 #[.val (.int p0), .val (.int p1), .val (.int p2), .val (.int p3), .val (.int (1 : Int32)), .val (.int (0 : Int32)), .val (.ref b86), .val (.ref b94), .val (.ref b106), .val .null, .val (.ref nr_180)] [.null, .null])) X191 hx rfl rfl rfl (pc0 := 195) (pc' := 198) (same := true) rfl (hb hby at_195) rfl (decide_eq_true rfl) (by decide) (by decide) k) ?_
      show Good p e below _ (T191.setTop (mkF m 198 #[.val (.int p0), .val (.int p1), .val (.int p2), .val (.int p3), .val (.int (1 : Int32)), .val (.int (0 : Int32)), .val (.ref b86), .val (.ref b94), .val (.ref b106), .val .null, .val (.ref nr_180)] []))
      refine Good.back (fun _ k => XS.iconst X191.here hx rfl (hb hby at_198) k) ?_
      show Good p e below _ (T191.setTop (mkF m 199 #[.val (.int p0), .val (.int p1), .val (.int p2), .val (.int p3), .val (.int (1 : Int32)), .val (.int (0 : Int32)), .val (.ref b86), .val (.ref b94), .val (.ref b106), .val .null, .val (.ref nr_180)] [(.int (1 : Int32))]))
      refine Good.back (fun _ k => XS.goto X191.here hx rfl (pc0 := 199) (pc' := 203) rfl (hb hby at_199) (by decide) (by decide) k) ?_
      show Good p e below _ (T191.setTop (mkF m 203 #[.val (.int p0), .val (.int p1), .val (.int p2), .val (.int p3), .val (.int (1 : Int32)), .val (.int (0 : Int32)), .val (.ref b86), .val (.ref b94), .val (.ref b106), .val .null, .val (.ref nr_180)] [(.int (1 : Int32))]))
      obtain ⟨fs192, hr192, hrun192, hended192, hRE192⟩ := leaveW X191 hS113 (by rw [eh191]; exact hk182) (v := some (.int (1 : Int32))) (fun h => by rw [Bd.returns] at h; cases h)
      refine Good.done (retN X191 hx (t := .boolean) Bd.returns (by simp) (hb hby at_203) hr192) hrun192 hended192 ⟨_, _, rfl, ?_, hRE192.1, hRE192.2.1, hRE192.2.2.1, hRE192.2.2.2.mono (by decide) (by decide)⟩
      show Q0 Z p0 p1 p2 p3 u8 cs h0 n0 _ T191.heap _
      rw [eh191]
      exact ⟨rfl, N191⟩
    · refine Good.back (fun _ k => XS.ifNo X0c.here hx rfl (hb hby at_16) rfl ((if0 _ _).trans (feq hc16_85).1) k) ?_
      show Good p e below _ (s₁.setTop (mkF m 19 #[.val (.int p0), .val (.int p1), .val (.int p2), .val (.int p3), .val (.int (1 : Int32)), .unset, .unset, .unset, .unset, .unset, .unset] []))
      refine Good.back (fun _ k => XS.iconst X0c.here hx rfl (hb hby at_19) k) ?_
      show Good p e below _ (s₁.setTop (mkF m 20 #[.val (.int p0), .val (.int p1), .val (.int p2), .val (.int p3), .val (.int (1 : Int32)), .unset, .unset, .unset, .unset, .unset, .unset] [(.int (1 : Int32))]))
      refine Good.back (fun _ k => XS.goto X0c.here hx rfl (pc0 := 20) (pc' := 24) rfl (hb hby at_20) (by decide) (by decide) k) ?_
      show Good p e below _ (s₁.setTop (mkF m 24 #[.val (.int p0), .val (.int p1), .val (.int p2), .val (.int p3), .val (.int (1 : Int32)), .unset, .unset, .unset, .unset, .unset, .unset] [(.int (1 : Int32))]))
      refine Good.back (fun _ k => XS.istore X0c.here hx rfl (hb hby at_24) rfl (l' := #[.val (.int p0), .val (.int p1), .val (.int p2), .val (.int p3), .val (.int (1 : Int32)), .val (.int (1 : Int32)), .unset, .unset, .unset, .unset, .unset]) rfl k) ?_
      show Good p e below _ (s₁.setTop (mkF m 26 #[.val (.int p0), .val (.int p1), .val (.int p2), .val (.int p3), .val (.int (1 : Int32)), .val (.int (1 : Int32)), .unset, .unset, .unset, .unset, .unset] []))
      refine Good.back (fun _ k => XS.iconst X0c.here hx rfl (hb hby at_26) k) ?_
      show Good p e below _ (s₁.setTop (mkF m 27 #[.val (.int p0), .val (.int p1), .val (.int p2), .val (.int p3), .val (.int (1 : Int32)), .val (.int (1 : Int32)), .unset, .unset, .unset, .unset, .unset] [(.int (1 : Int32))]))
      obtain ⟨T193, h193, k193, X193, e193, E193, A193, st193⟩ := newP X0c hx hZ0 (hw _ (List.mem_of_getElem? (i := 0) rfl)) e0 (g := (mkF m 27 #[.val (.int p0), .val (.int p1), .val (.int p2), .val (.int p3), .val (.int (1 : Int32)), .val (.int (1 : Int32)), .unset, .unset, .unset, .unset, .unset] [(.int (1 : Int32))])) rfl (hb hby at_27) rfl (by decide) (cap := 1) (by decide) (by decide) (by decide) (by decide)
      obtain ⟨b193, g193⟩ : ∃ z, z = h0.size := ⟨_, rfl⟩
      rw [← g193] at A193 st193
      refine Good.back st193 ?_
      have g_b193 : n0 ≤ b193 := Nat.le_trans Z0 (Nat.le_of_eq g193.symm)
      have Z194 : n0 ≤ h193.size := Nat.le_trans Z0 E193.1
      have hk195 := Nat.le_trans hk0 E193.1
      have f_196 : Arv Z h193 b193 k193 .char (1 : Int32) [(.int (0 : Int32))] (.int (0 : Int32)) := (Arv.new A193 (by decide)).pad (pad_rep [] (.int (0 : Int32)) 1)
      show Good p e below _ (T193.setTop (mkF m 29 #[.val (.int p0), .val (.int p1), .val (.int p2), .val (.int p3), .val (.int (1 : Int32)), .val (.int (1 : Int32)), .unset, .unset, .unset, .unset, .unset] [(.ref b193)]))
      refine Good.back (fun _ k => XS.dup X193.here hx rfl (hb hby at_29) rfl rfl k) ?_
      show Good p e below _ (T193.setTop (mkF m 30 #[.val (.int p0), .val (.int p1), .val (.int p2), .val (.int p3), .val (.int (1 : Int32)), .val (.int (1 : Int32)), .unset, .unset, .unset, .unset, .unset] [(.ref b193), (.ref b193)]))
      refine Good.back (fun _ k => XS.iconst X193.here hx rfl (hb hby at_30) k) ?_
      show Good p e below _ (T193.setTop (mkF m 31 #[.val (.int p0), .val (.int p1), .val (.int p2), .val (.int p3), .val (.int (1 : Int32)), .val (.int (1 : Int32)), .unset, .unset, .unset, .unset, .unset] [(.int (0 : Int32)), (.ref b193), (.ref b193)]))
      refine Good.back (fun _ k => XS.iloadN X193.here hx rfl (hb hby at_31) rfl k) ?_
      show Good p e below _ (T193.setTop (mkF m 32 #[.val (.int p0), .val (.int p1), .val (.int p2), .val (.int p3), .val (.int (1 : Int32)), .val (.int (1 : Int32)), .unset, .unset, .unset, .unset, .unset] [(.int p2), (.int (0 : Int32)), (.ref b193), (.ref b193)]))
      refine Good.back (fun _ k => XS.sipush X193.here hx rfl (hb hby at_32) k) ?_
      show Good p e below _ (T193.setTop (mkF m 35 #[.val (.int p0), .val (.int p1), .val (.int p2), .val (.int p3), .val (.int (1 : Int32)), .val (.int (1 : Int32)), .unset, .unset, .unset, .unset, .unset] [(.int (255 : Int32)), (.int p2), (.int (0 : Int32)), (.ref b193), (.ref b193)]))
      refine Good.back (fun _ k => XS.iand X193.here hx rfl (hb hby at_35) rfl k) ?_
      show Good p e below _ (T193.setTop (mkF m 36 #[.val (.int p0), .val (.int p1), .val (.int p2), .val (.int p3), .val (.int (1 : Int32)), .val (.int (1 : Int32)), .unset, .unset, .unset, .unset, .unset] [(.int (p2 &&& (255 : Int32))), (.int (0 : Int32)), (.ref b193), (.ref b193)]))
      refine Good.back (fun _ k => XS.i2c X193.here hx rfl (hb hby at_36) rfl k) ?_
      show Good p e below _ (T193.setTop (mkF m 37 #[.val (.int p0), .val (.int p1), .val (.int p2), .val (.int p3), .val (.int (1 : Int32)), .val (.int (1 : Int32)), .unset, .unset, .unset, .unset, .unset] [(.int ((p2 &&& (255 : Int32)).toUInt32.toUInt16.toUInt32.toInt32)), (.int (0 : Int32)), (.ref b193), (.ref b193)]))
      have fc197 := f_196
      obtain ⟨cl197, Ar197, qk197, S197, N197', H197, G197⟩ := fc197
      have hin197 : ¬ ((0 : Int32) < 0 ∨ cl197.slots.size ≤ ((0 : Int32)).toNatClampNeg) := inb_of S197 ⟨by decide, by decide⟩
      obtain ⟨T197, h197, X197, e197, W197, st197⟩ := stC X193 hx hZ0 e193 Ar197 (j := (0 : Int32)) hin197 (g := (mkF m 37 #[.val (.int p0), .val (.int p1), .val (.int p2), .val (.int p3), .val (.int (1 : Int32)), .val (.int (1 : Int32)), .unset, .unset, .unset, .unset, .unset] [(.int ((p2 &&& (255 : Int32)).toUInt32.toUInt16.toUInt32.toInt32)), (.int (0 : Int32)), (.ref b193), (.ref b193)])) rfl rfl (hb hby at_37)
      refine Good.back st197 ?_
      have f_198 : Arv Z h197 b193 k193 .char (1 : Int32) [(.int (nar .char ((p2 &&& (255 : Int32)).toUInt32.toUInt16.toUInt32.toInt32)))] (.int (0 : Int32)) := Arv.set Ar197 qk197 S197 N197' H197 G197 (fits_nar_char _) W197 0 rfl (Nat.le_of_ble_eq_true rfl)
      have N197 := Fr.snoc X197 N0 g_b193
      have Z199 : n0 ≤ h197.size := Nat.le_trans Z194 (Keep.of_wr W197).1
      have hk200 := Nat.le_trans hk195 (Keep.of_wr W197).1
      show Good p e below _ (T197.setTop (mkF m 38 #[.val (.int p0), .val (.int p1), .val (.int p2), .val (.int p3), .val (.int (1 : Int32)), .val (.int (1 : Int32)), .unset, .unset, .unset, .unset, .unset] [(.ref b193)]))
      refine Good.back (fun _ k => XS.astore X197.here hx rfl (hb hby at_38) rfl rfl (l' := #[.val (.int p0), .val (.int p1), .val (.int p2), .val (.int p3), .val (.int (1 : Int32)), .val (.int (1 : Int32)), .val (.ref b193), .unset, .unset, .unset, .unset]) rfl k) ?_
      show Good p e below _ (T197.setTop (mkF m 40 #[.val (.int p0), .val (.int p1), .val (.int p2), .val (.int p3), .val (.int (1 : Int32)), .val (.int (1 : Int32)), .val (.ref b193), .unset, .unset, .unset, .unset] []))
      refine Good.back (fun _ k => XS.iconst X197.here hx rfl (hb hby at_40) k) ?_
      show Good p e below _ (T197.setTop (mkF m 41 #[.val (.int p0), .val (.int p1), .val (.int p2), .val (.int p3), .val (.int (1 : Int32)), .val (.int (1 : Int32)), .val (.ref b193), .unset, .unset, .unset, .unset] [(.int (2 : Int32))]))
      obtain ⟨T201, h201, k201, X201, e201, E201, A201, st201⟩ := newP X197 hx hZ0 (hw _ (List.mem_of_getElem? (i := 0) rfl)) e197 (g := (mkF m 41 #[.val (.int p0), .val (.int p1), .val (.int p2), .val (.int p3), .val (.int (1 : Int32)), .val (.int (1 : Int32)), .val (.ref b193), .unset, .unset, .unset, .unset] [(.int (2 : Int32))])) rfl (hb hby at_41) rfl (by decide) (cap := 2) (by decide) (by decide) (by decide) (by decide)
      obtain ⟨b201, g201⟩ : ∃ z, z = h197.size := ⟨_, rfl⟩
      rw [← g201] at A201 st201
      refine Good.back st201 ?_
      have g_b201 : n0 ≤ b201 := Nat.le_trans Z199 (Nat.le_of_eq g201.symm)
      have Z202 : n0 ≤ h201.size := Nat.le_trans Z199 E201.1
      have hk203 := Nat.le_trans hk200 E201.1
      have f_204 : Arv Z h201 b201 k201 .char (2 : Int32) [(.int (0 : Int32)), (.int (0 : Int32))] (.int (0 : Int32)) := (Arv.new A201 (by decide)).pad (pad_rep [] (.int (0 : Int32)) 2)
      show Good p e below _ (T201.setTop (mkF m 43 #[.val (.int p0), .val (.int p1), .val (.int p2), .val (.int p3), .val (.int (1 : Int32)), .val (.int (1 : Int32)), .val (.ref b193), .unset, .unset, .unset, .unset] [(.ref b201)]))
      refine Good.back (fun _ k => XS.dup X201.here hx rfl (hb hby at_43) rfl rfl k) ?_
      show Good p e below _ (T201.setTop (mkF m 44 #[.val (.int p0), .val (.int p1), .val (.int p2), .val (.int p3), .val (.int (1 : Int32)), .val (.int (1 : Int32)), .val (.ref b193), .unset, .unset, .unset, .unset] [(.ref b201), (.ref b201)]))
      refine Good.back (fun _ k => XS.iconst X201.here hx rfl (hb hby at_44) k) ?_
      show Good p e below _ (T201.setTop (mkF m 45 #[.val (.int p0), .val (.int p1), .val (.int p2), .val (.int p3), .val (.int (1 : Int32)), .val (.int (1 : Int32)), .val (.ref b193), .unset, .unset, .unset, .unset] [(.int (0 : Int32)), (.ref b201), (.ref b201)]))
      refine Good.back (fun _ k => XS.iloadN X201.here hx rfl (hb hby at_45) rfl k) ?_
      show Good p e below _ (T201.setTop (mkF m 46 #[.val (.int p0), .val (.int p1), .val (.int p2), .val (.int p3), .val (.int (1 : Int32)), .val (.int (1 : Int32)), .val (.ref b193), .unset, .unset, .unset, .unset] [(.int p1), (.int (0 : Int32)), (.ref b201), (.ref b201)]))
      refine Good.back (fun _ k => XS.sipush X201.here hx rfl (hb hby at_46) k) ?_
      show Good p e below _ (T201.setTop (mkF m 49 #[.val (.int p0), .val (.int p1), .val (.int p2), .val (.int p3), .val (.int (1 : Int32)), .val (.int (1 : Int32)), .val (.ref b193), .unset, .unset, .unset, .unset] [(.int (255 : Int32)), (.int p1), (.int (0 : Int32)), (.ref b201), (.ref b201)]))
      refine Good.back (fun _ k => XS.iand X201.here hx rfl (hb hby at_49) rfl k) ?_
      show Good p e below _ (T201.setTop (mkF m 50 #[.val (.int p0), .val (.int p1), .val (.int p2), .val (.int p3), .val (.int (1 : Int32)), .val (.int (1 : Int32)), .val (.ref b193), .unset, .unset, .unset, .unset] [(.int (p1 &&& (255 : Int32))), (.int (0 : Int32)), (.ref b201), (.ref b201)]))
      refine Good.back (fun _ k => XS.i2c X201.here hx rfl (hb hby at_50) rfl k) ?_
      show Good p e below _ (T201.setTop (mkF m 51 #[.val (.int p0), .val (.int p1), .val (.int p2), .val (.int p3), .val (.int (1 : Int32)), .val (.int (1 : Int32)), .val (.ref b193), .unset, .unset, .unset, .unset] [(.int ((p1 &&& (255 : Int32)).toUInt32.toUInt16.toUInt32.toInt32)), (.int (0 : Int32)), (.ref b201), (.ref b201)]))
      have fc205 := f_204
      obtain ⟨cl205, Ar205, qk205, S205, N205', H205, G205⟩ := fc205
      have hin205 : ¬ ((0 : Int32) < 0 ∨ cl205.slots.size ≤ ((0 : Int32)).toNatClampNeg) := inb_of S205 ⟨by decide, by decide⟩
      obtain ⟨T205, h205, X205, e205, W205, st205⟩ := stC X201 hx hZ0 e201 Ar205 (j := (0 : Int32)) hin205 (g := (mkF m 51 #[.val (.int p0), .val (.int p1), .val (.int p2), .val (.int p3), .val (.int (1 : Int32)), .val (.int (1 : Int32)), .val (.ref b193), .unset, .unset, .unset, .unset] [(.int ((p1 &&& (255 : Int32)).toUInt32.toUInt16.toUInt32.toInt32)), (.int (0 : Int32)), (.ref b201), (.ref b201)])) rfl rfl (hb hby at_51)
      refine Good.back st205 ?_
      have f_206 : Arv Z h205 b201 k201 .char (2 : Int32) [(.int (nar .char ((p1 &&& (255 : Int32)).toUInt32.toUInt16.toUInt32.toInt32))), (.int (0 : Int32))] (.int (0 : Int32)) := Arv.set Ar205 qk205 S205 N205' H205 G205 (fits_nar_char _) W205 0 rfl (Nat.le_of_ble_eq_true rfl)
      have N205 := Fr.snoc X205 N197 g_b201
      have Z207 : n0 ≤ h205.size := Nat.le_trans Z202 (Keep.of_wr W205).1
      have hk208 := Nat.le_trans hk203 (Keep.of_wr W205).1
      show Good p e below _ (T205.setTop (mkF m 52 #[.val (.int p0), .val (.int p1), .val (.int p2), .val (.int p3), .val (.int (1 : Int32)), .val (.int (1 : Int32)), .val (.ref b193), .unset, .unset, .unset, .unset] [(.ref b201)]))
      refine Good.back (fun _ k => XS.dup X205.here hx rfl (hb hby at_52) rfl rfl k) ?_
      show Good p e below _ (T205.setTop (mkF m 53 #[.val (.int p0), .val (.int p1), .val (.int p2), .val (.int p3), .val (.int (1 : Int32)), .val (.int (1 : Int32)), .val (.ref b193), .unset, .unset, .unset, .unset] [(.ref b201), (.ref b201)]))
      refine Good.back (fun _ k => XS.iconst X205.here hx rfl (hb hby at_53) k) ?_
      show Good p e below _ (T205.setTop (mkF m 54 #[.val (.int p0), .val (.int p1), .val (.int p2), .val (.int p3), .val (.int (1 : Int32)), .val (.int (1 : Int32)), .val (.ref b193), .unset, .unset, .unset, .unset] [(.int (1 : Int32)), (.ref b201), (.ref b201)]))
      refine Good.back (fun _ k => XS.iloadN X205.here hx rfl (hb hby at_54) rfl k) ?_
      show Good p e below _ (T205.setTop (mkF m 55 #[.val (.int p0), .val (.int p1), .val (.int p2), .val (.int p3), .val (.int (1 : Int32)), .val (.int (1 : Int32)), .val (.ref b193), .unset, .unset, .unset, .unset] [(.int p2), (.int (1 : Int32)), (.ref b201), (.ref b201)]))
      refine Good.back (fun _ k => XS.sipush X205.here hx rfl (hb hby at_55) k) ?_
      show Good p e below _ (T205.setTop (mkF m 58 #[.val (.int p0), .val (.int p1), .val (.int p2), .val (.int p3), .val (.int (1 : Int32)), .val (.int (1 : Int32)), .val (.ref b193), .unset, .unset, .unset, .unset] [(.int (255 : Int32)), (.int p2), (.int (1 : Int32)), (.ref b201), (.ref b201)]))
      refine Good.back (fun _ k => XS.iand X205.here hx rfl (hb hby at_58) rfl k) ?_
      show Good p e below _ (T205.setTop (mkF m 59 #[.val (.int p0), .val (.int p1), .val (.int p2), .val (.int p3), .val (.int (1 : Int32)), .val (.int (1 : Int32)), .val (.ref b193), .unset, .unset, .unset, .unset] [(.int (p2 &&& (255 : Int32))), (.int (1 : Int32)), (.ref b201), (.ref b201)]))
      refine Good.back (fun _ k => XS.i2c X205.here hx rfl (hb hby at_59) rfl k) ?_
      show Good p e below _ (T205.setTop (mkF m 60 #[.val (.int p0), .val (.int p1), .val (.int p2), .val (.int p3), .val (.int (1 : Int32)), .val (.int (1 : Int32)), .val (.ref b193), .unset, .unset, .unset, .unset] [(.int ((p2 &&& (255 : Int32)).toUInt32.toUInt16.toUInt32.toInt32)), (.int (1 : Int32)), (.ref b201), (.ref b201)]))
      have fc209 := f_206
      obtain ⟨cl209, Ar209, qk209, S209, N209', H209, G209⟩ := fc209
      have hin209 : ¬ ((1 : Int32) < 0 ∨ cl209.slots.size ≤ ((1 : Int32)).toNatClampNeg) := inb_of S209 ⟨by decide, by decide⟩
      obtain ⟨T209, h209, X209, e209, W209, st209⟩ := stC X205 hx hZ0 e205 Ar209 (j := (1 : Int32)) hin209 (g := (mkF m 60 #[.val (.int p0), .val (.int p1), .val (.int p2), .val (.int p3), .val (.int (1 : Int32)), .val (.int (1 : Int32)), .val (.ref b193), .unset, .unset, .unset, .unset] [(.int ((p2 &&& (255 : Int32)).toUInt32.toUInt16.toUInt32.toInt32)), (.int (1 : Int32)), (.ref b201), (.ref b201)])) rfl rfl (hb hby at_60)
      refine Good.back st209 ?_
      have f_210 : Arv Z h209 b201 k201 .char (2 : Int32) [(.int (nar .char ((p1 &&& (255 : Int32)).toUInt32.toUInt16.toUInt32.toInt32))), (.int (nar .char ((p2 &&& (255 : Int32)).toUInt32.toUInt16.toUInt32.toInt32)))] (.int (0 : Int32)) := Arv.set Ar209 qk209 S209 N209' H209 G209 (fits_nar_char _) W209 1 rfl (Nat.le_of_ble_eq_true rfl)
      have N209 := Fr.snoc X209 N205 g_b201
      have Z211 : n0 ≤ h209.size := Nat.le_trans Z207 (Keep.of_wr W209).1
      have hk212 := Nat.le_trans hk208 (Keep.of_wr W209).1
      show Good p e below _ (T209.setTop (mkF m 61 #[.val (.int p0), .val (.int p1), .val (.int p2), .val (.int p3), .val (.int (1 : Int32)), .val (.int (1 : Int32)), .val (.ref b193), .unset, .unset, .unset, .unset] [(.ref b201)]))
      refine Good.back (fun _ k => XS.astore X209.here hx rfl (hb hby at_61) rfl rfl (l' := #[.val (.int p0), .val (.int p1), .val (.int p2), .val (.int p3), .val (.int (1 : Int32)), .val (.int (1 : Int32)), .val (.ref b193), .val (.ref b201), .unset, .unset, .unset]) rfl k) ?_
      show Good p e below _ (T209.setTop (mkF m 63 #[.val (.int p0), .val (.int p1), .val (.int p2), .val (.int p3), .val (.int (1 : Int32)), .val (.int (1 : Int32)), .val (.ref b193), .val (.ref b201), .unset, .unset, .unset] []))
      refine Good.back (fun _ k => XS.iload X209.here hx rfl (hb hby at_63) rfl k) ?_
      show Good p e below _ (T209.setTop (mkF m 65 #[.val (.int p0), .val (.int p1), .val (.int p2), .val (.int p3), .val (.int (1 : Int32)), .val (.int (1 : Int32)), .val (.ref b193), .val (.ref b201), .unset, .unset, .unset] [(.int (1 : Int32))]))
      refine Good.back (fun _ k => XS.ifNo X209.here hx rfl (hb hby at_65) rfl ((if0 _ _).trans (feq (by decide : ¬ ((1 : Int32) = (0 : Int32)))).1) k) ?_
      show Good p e below _ (T209.setTop (mkF m 68 #[.val (.int p0), .val (.int p1), .val (.int p2), .val (.int p3), .val (.int (1 : Int32)), .val (.int (1 : Int32)), .val (.ref b193), .val (.ref b201), .unset, .unset, .unset] []))
      obtain ⟨T213, h213, X213, e213, E213, A213, D213, -, st213⟩ := newO X209 hx hZ0 hown0 (hw _ (List.mem_of_getElem? (i := 1) rfl)) (hw _ (List.mem_of_getElem? (i := 2) rfl)) (hw _ (List.mem_of_getElem? (i := 3) rfl)) e209 (g := (mkF m 68 #[.val (.int p0), .val (.int p1), .val (.int p2), .val (.int p3), .val (.int (1 : Int32)), .val (.int (1 : Int32)), .val (.ref b193), .val (.ref b201), .unset, .unset, .unset] [])) rfl (hb hby at_68) (by decide) (by decide)
      obtain ⟨b213, g213⟩ : ∃ z, z = h209.size := ⟨_, rfl⟩
      rw [← g213] at A213 D213 st213
      refine Good.back st213 ?_
      have g_b213 : n0 ≤ b213 := Nat.le_trans Z211 (Nat.le_of_eq g213.symm)
      have Z214 : n0 ≤ h213.size := Nat.le_trans Z211 E213.1
      have hk215 := Nat.le_trans hk212 E213.1
      have f_216 : Exa Z h213 b213 "com/example/orderd/orderd/provider/Reply" := A213
      have f_217 : Fld Z h213 b213 "com/example/orderd/orderd/provider/Reply" "status" "I" (.int (0 : Int32)) := D213 (Or.inr (hw _ (List.mem_of_getElem? (i := 41) rfl))) (ty := .int) (by decide)
      have f_218 : Fld Z h213 b213 "com/example/orderd/orderd/provider/Reply" "contentType" "Ljava/lang/String;" .null := D213 (Or.inr (hw _ (List.mem_of_getElem? (i := 43) rfl))) (ty := (.object "java/lang/String")) (by decide)
      have f_219 : Fld Z h213 b213 "com/example/orderd/orderd/provider/Reply" "body" "[B" .null := D213 (Or.inr (hw _ (List.mem_of_getElem? (i := 81) rfl))) (ty := (.array .byte)) (by decide)
      show Good p e below _ (T213.setTop (mkF m 71 #[.val (.int p0), .val (.int p1), .val (.int p2), .val (.int p3), .val (.int (1 : Int32)), .val (.int (1 : Int32)), .val (.ref b193), .val (.ref b201), .unset, .unset, .unset] [(.ref b213)]))
      refine Good.back (fun _ k => XS.dup X213.here hx rfl (hb hby at_71) rfl rfl k) ?_
      show Good p e below _ (T213.setTop (mkF m 72 #[.val (.int p0), .val (.int p1), .val (.int p2), .val (.int p3), .val (.int (1 : Int32)), .val (.int (1 : Int32)), .val (.ref b193), .val (.ref b201), .unset, .unset, .unset] [(.ref b213), (.ref b213)]))
      refine Good.back (fun _ k => XS.iloadN X213.here hx rfl (hb hby at_72) rfl k) ?_
      show Good p e below _ (T213.setTop (mkF m 73 #[.val (.int p0), .val (.int p1), .val (.int p2), .val (.int p3), .val (.int (1 : Int32)), .val (.int (1 : Int32)), .val (.ref b193), .val (.ref b201), .unset, .unset, .unset] [(.int p0), (.ref b213), (.ref b213)]))
      obtain ⟨a220, T220, h220, kc220, X220, e220, E220, hS220, hk220, hZ220, hown220, st220⟩ := ldcS X213 hx hZ0 hown0 (hw _ (List.mem_of_getElem? (i := 4) rfl)) (own_wS hw) e213 hS0 hk215 (g := (mkF m 73 #[.val (.int p0), .val (.int p1), .val (.int p2), .val (.int p3), .val (.int (1 : Int32)), .val (.int (1 : Int32)), .val (.ref b193), .val (.ref b201), .unset, .unset, .unset] [(.int p0), (.ref b213), (.ref b213)])) rfl (hb hby at_73) (n := 40) (by decide +kernel) (by decide) (by decide) (by decide)
      refine Good.back st220 ?_
      have Z221 : n0 ≤ h220.size := Nat.le_trans Z214 E220.1
      have hk222 := Nat.le_trans hk215 E220.1
      show Good p e below _ (T220.setTop (mkF m 75 #[.val (.int p0), .val (.int p1), .val (.int p2), .val (.int p3), .val (.int (1 : Int32)), .val (.int (1 : Int32)), .val (.ref b193), .val (.ref b201), .unset, .unset, .unset] [(.ref a220), (.int p0), (.ref b213), (.ref b213)]))
      obtain ⟨T223, h223, X223, e223, E223, A223, D223, -, st223⟩ := newO X220 hx hZ220 hown220 (hw _ (List.mem_of_getElem? (i := 12) rfl)) (hw _ (List.mem_of_getElem? (i := 6) rfl)) (hw _ (List.mem_of_getElem? (i := 5) rfl)) e220 (g := (mkF m 75 #[.val (.int p0), .val (.int p1), .val (.int p2), .val (.int p3), .val (.int (1 : Int32)), .val (.int (1 : Int32)), .val (.ref b193), .val (.ref b201), .unset, .unset, .unset] [(.ref a220), (.int p0), (.ref b213), (.ref b213)])) rfl (hb hby at_75) (by decide) (by decide)
      obtain ⟨b223, g223⟩ : ∃ z, z = h220.size := ⟨_, rfl⟩
      rw [← g223] at A223 D223 st223
      refine Good.back st223 ?_
      have g_b223 : n0 ≤ b223 := Nat.le_trans Z221 (Nat.le_of_eq g223.symm)
      have Z224 : n0 ≤ h223.size := Nat.le_trans Z221 E223.1
      have hk225 := Nat.le_trans hk220 E223.1
      have f_226 : Exa Z h223 b223 "java/lang/String" := A223
      have f_227 : Fld Z h223 b223 "java/lang/String" "value" "[B" .null := D223 (Or.inr (hw _ (List.mem_of_getElem? (i := 8) rfl))) (ty := (.array .byte)) (by decide)
      have f_228 : Fld Z h223 b223 "java/lang/String" "coder" "B" (.int (0 : Int32)) := D223 (Or.inr (hw _ (List.mem_of_getElem? (i := 9) rfl))) (ty := .byte) (by decide)
      show Good p e below _ (T223.setTop (mkF m 78 #[.val (.int p0), .val (.int p1), .val (.int p2), .val (.int p3), .val (.int (1 : Int32)), .val (.int (1 : Int32)), .val (.ref b193), .val (.ref b201), .unset, .unset, .unset] [(.ref b223), (.ref a220), (.int p0), (.ref b213), (.ref b213)]))
      refine Good.back (fun _ k => XS.dup X223.here hx rfl (hb hby at_78) rfl rfl k) ?_
      show Good p e below _ (T223.setTop (mkF m 79 #[.val (.int p0), .val (.int p1), .val (.int p2), .val (.int p3), .val (.int (1 : Int32)), .val (.int (1 : Int32)), .val (.ref b193), .val (.ref b201), .unset, .unset, .unset] [(.ref b223), (.ref b223), (.ref a220), (.int p0), (.ref b213), (.ref b213)]))
      refine Good.back (fun _ k => XS.aload X223.here hx rfl (hb hby at_79) rfl rfl k) ?_
      show Good p e below _ (T223.setTop (mkF m 81 #[.val (.int p0), .val (.int p1), .val (.int p2), .val (.int p3), .val (.int (1 : Int32)), .val (.int (1 : Int32)), .val (.ref b193), .val (.ref b201), .unset, .unset, .unset] [(.ref b193), (.ref b223), (.ref b223), (.ref a220), (.int p0), (.ref b213), (.ref b213)]))
      have f_230 : Sta Z h193 "java/lang/String" "COMPACT_STRINGS" "Z" (.int cs) := Sta.ext E193 S_cs
      have f_231 : Sta Z h197 "java/lang/String" "COMPACT_STRINGS" "Z" (.int cs) := Sta.wr W197 f_230
      have f_232 : Sta Z h201 "java/lang/String" "COMPACT_STRINGS" "Z" (.int cs) := Sta.ext E201 f_231
      have f_233 : Sta Z h205 "java/lang/String" "COMPACT_STRINGS" "Z" (.int cs) := Sta.wr W205 f_232
      have f_234 : Sta Z h209 "java/lang/String" "COMPACT_STRINGS" "Z" (.int cs) := Sta.wr W209 f_233
      have f_235 : Sta Z h213 "java/lang/String" "COMPACT_STRINGS" "Z" (.int cs) := Sta.ext E213 f_234
      have f_236 : Sta Z h220 "java/lang/String" "COMPACT_STRINGS" "Z" (.int cs) := Sta.ext E220 f_235
      have f_237 : Sta Z h223 "java/lang/String" "COMPACT_STRINGS" "Z" (.int cs) := Sta.ext E223 f_236
      have f_238 : Arv Z h201 b193 k193 .char (1 : Int32) [(.int (nar .char ((p2 &&& (255 : Int32)).toUInt32.toUInt16.toUInt32.toInt32)))] (.int (0 : Int32)) := Arv.ext f_198 E201
      have ne_b193_b201_240 : b193 ≠ b201 := Nat.ne_of_lt (Nat.lt_of_lt_of_le f_198.lt (Nat.le_of_eq g201.symm))
      have f_239 : Arv Z h205 b193 k193 .char (1 : Int32) [(.int (nar .char ((p2 &&& (255 : Int32)).toUInt32.toUInt16.toUInt32.toInt32)))] (.int (0 : Int32)) := Arv.other f_238 W205 ne_b193_b201_240
      have f_241 : Arv Z h209 b193 k193 .char (1 : Int32) [(.int (nar .char ((p2 &&& (255 : Int32)).toUInt32.toUInt16.toUInt32.toInt32)))] (.int (0 : Int32)) := Arv.other f_239 W209 ne_b193_b201_240
      have f_242 : Arv Z h213 b193 k193 .char (1 : Int32) [(.int (nar .char ((p2 &&& (255 : Int32)).toUInt32.toUInt16.toUInt32.toInt32)))] (.int (0 : Int32)) := Arv.ext f_241 E213
      have f_243 : Arv Z h220 b193 k193 .char (1 : Int32) [(.int (nar .char ((p2 &&& (255 : Int32)).toUInt32.toUInt16.toUInt32.toInt32)))] (.int (0 : Int32)) := Arv.ext f_242 E220
      have f_244 : Arv Z h223 b193 k193 .char (1 : Int32) [(.int (nar .char ((p2 &&& (255 : Int32)).toUInt32.toUInt16.toUInt32.toInt32)))] (.int (0 : Int32)) := Arv.ext f_243 E223
      obtain ⟨_, _, ⟨T229, L229, k229, n229⟩, -, X229, ⟨Lc229, hQ229, l229, y229, z229⟩, st229⟩ := X223.specialBack hx (y := (⟨"java/lang/String", "<init>", "([C)V"⟩ : MethodName)) rfl hown220 (mvT hZ220 (hw _ (List.mem_of_getElem? (i := 13) rfl))) (mvT hZ220 (hw _ (List.mem_of_getElem? (i := 14) rfl))) (mvT hZ220 (hw _ (List.mem_of_getElem? (i := 15) rfl))) (by decide) (backOf (W := 5) (rm1n1 l Z a0 hw [] b223 b193 cs k193 (nar .char ((p2 &&& (255 : Int32)).toUInt32.toUInt16.toUInt32.toInt32)) h223 n0 Z224 f_237 (hcs) f_226 g_b223 f_227 f_228 f_244 (own_charN p2)) hZ220 (hw _ (List.mem_of_getElem? (i := 15) rfl)) (hw _ (List.mem_of_getElem? (i := 5) rfl)) (by decide) (by decide)) (g := (mkF m 81 #[.val (.int p0), .val (.int p1), .val (.int p2), .val (.int p3), .val (.int (1 : Int32)), .val (.int (1 : Int32)), .val (.ref b193), .val (.ref b201), .unset, .unset, .unset] [(.ref b193), (.ref b223), (.ref b223), (.ref a220), (.int p0), (.ref b213), (.ref b213)])) rfl (by rw [hml]; rfl) (Steps.refl _) (a := b223) (argsL := [(.ref b193)]) (rest := [(.ref b223), (.ref a220), (.int p0), (.ref b213), (.ref b213)]) (lenOf own_pd307 rfl) rfl (by show 2 * 0 + _ ≤ _; exact Nat.le_of_eq rfl) (hb hby at_81) (fun _ _ => ⟨rfl, e223, (by decide : 6 + 1 ≤ _), (by decide : 54 + 1 ≤ _)⟩)
      dsimp only [Pt.U, Pt.locs, Pt.cells, Pt.slots] at X229 l229 y229 z229 st229 hQ229
      subst l229 y229 z229
      obtain ⟨ar_229, kb_229, rfl, N229q, Kq229, o229_0, o229_1, o229_2, o229_3, o229_4⟩ := hQ229
      have N229 := Fr.app N209 N229q
      have Z245 : n0 ≤ T229.heap.size := Nat.le_trans Z224 Kq229.1
      have hk246 := Nat.le_trans hk225 Kq229.1
      have g_ar_229 : n0 ≤ ar_229 := Nat.le_trans Z224 o229_0
      refine Good.back (fun _ k => st229.trans k) ?_
      show Good p e below _ (T229.setTop (mkF m 84 #[.val (.int p0), .val (.int p1), .val (.int p2), .val (.int p3), .val (.int (1 : Int32)), .val (.int (1 : Int32)), .val (.ref b193), .val (.ref b201), .unset, .unset, .unset] [(.ref b223), (.ref a220), (.int p0), (.ref b213), (.ref b213)]))
      have f_248 : Sta Z h193 "java/nio/charset/StandardCharsets" "UTF_8" "Ljava/nio/charset/Charset;" (.ref u8) := Sta.ext E193 S_u8
      have f_249 : Sta Z h197 "java/nio/charset/StandardCharsets" "UTF_8" "Ljava/nio/charset/Charset;" (.ref u8) := Sta.wr W197 f_248
      have f_250 : Sta Z h201 "java/nio/charset/StandardCharsets" "UTF_8" "Ljava/nio/charset/Charset;" (.ref u8) := Sta.ext E201 f_249
      have f_251 : Sta Z h205 "java/nio/charset/StandardCharsets" "UTF_8" "Ljava/nio/charset/Charset;" (.ref u8) := Sta.wr W205 f_250
      have f_252 : Sta Z h209 "java/nio/charset/StandardCharsets" "UTF_8" "Ljava/nio/charset/Charset;" (.ref u8) := Sta.wr W209 f_251
      have f_253 : Sta Z h213 "java/nio/charset/StandardCharsets" "UTF_8" "Ljava/nio/charset/Charset;" (.ref u8) := Sta.ext E213 f_252
      have f_254 : Sta Z h220 "java/nio/charset/StandardCharsets" "UTF_8" "Ljava/nio/charset/Charset;" (.ref u8) := Sta.ext E220 f_253
      have f_255 : Sta Z h223 "java/nio/charset/StandardCharsets" "UTF_8" "Ljava/nio/charset/Charset;" (.ref u8) := Sta.ext E223 f_254
      have f_256 : Sta Z T229.heap "java/nio/charset/StandardCharsets" "UTF_8" "Ljava/nio/charset/Charset;" (.ref u8) := own_staKeep f_255 Kq229 (allS (own_plainE f_226) all0)
      have f_257 : Sta Z h193 "sun/nio/cs/UTF_8" "INSTANCE" "Lsun/nio/cs/UTF_8;" (.ref u8) := Sta.ext E193 S_in
      have f_258 : Sta Z h197 "sun/nio/cs/UTF_8" "INSTANCE" "Lsun/nio/cs/UTF_8;" (.ref u8) := Sta.wr W197 f_257
      have f_259 : Sta Z h201 "sun/nio/cs/UTF_8" "INSTANCE" "Lsun/nio/cs/UTF_8;" (.ref u8) := Sta.ext E201 f_258
      have f_260 : Sta Z h205 "sun/nio/cs/UTF_8" "INSTANCE" "Lsun/nio/cs/UTF_8;" (.ref u8) := Sta.wr W205 f_259
      have f_261 : Sta Z h209 "sun/nio/cs/UTF_8" "INSTANCE" "Lsun/nio/cs/UTF_8;" (.ref u8) := Sta.wr W209 f_260
      have f_262 : Sta Z h213 "sun/nio/cs/UTF_8" "INSTANCE" "Lsun/nio/cs/UTF_8;" (.ref u8) := Sta.ext E213 f_261
      have f_263 : Sta Z h220 "sun/nio/cs/UTF_8" "INSTANCE" "Lsun/nio/cs/UTF_8;" (.ref u8) := Sta.ext E220 f_262
      have f_264 : Sta Z h223 "sun/nio/cs/UTF_8" "INSTANCE" "Lsun/nio/cs/UTF_8;" (.ref u8) := Sta.ext E223 f_263
      have f_265 : Sta Z T229.heap "sun/nio/cs/UTF_8" "INSTANCE" "Lsun/nio/cs/UTF_8;" (.ref u8) := own_staKeep f_264 Kq229 (allS (own_plainE f_226) all0)
      have f_266 : Sta Z T229.heap "java/lang/String" "COMPACT_STRINGS" "Z" (.int cs) := own_staKeep f_237 Kq229 (allS (own_plainE f_226) all0)
      have f_267 : Exa Z h220 b213 "com/example/orderd/orderd/provider/Reply" := Exa.ext E220 f_216
      have f_268 : Exa Z h223 b213 "com/example/orderd/orderd/provider/Reply" := Exa.ext E223 f_267
      have f_269 : Exa Z T229.heap b213 "com/example/orderd/orderd/provider/Reply" := Exa.keep f_268 Kq229
      have f_270 : Fld Z h220 b213 "com/example/orderd/orderd/provider/Reply" "status" "I" (.int (0 : Int32)) := Fld.ext E220 f_217
      have f_271 : Fld Z h223 b213 "com/example/orderd/orderd/provider/Reply" "status" "I" (.int (0 : Int32)) := Fld.ext E223 f_270
      have f_273 : Fld Z h220 b213 "com/example/orderd/orderd/provider/Reply" "body" "[B" .null := Fld.ext E220 f_219
      have ne_b213_b223_274 : b213 ≠ b223 := Nat.ne_of_lt (Nat.lt_of_lt_of_le f_273.lt (Nat.le_of_eq g223.symm))
      have f_272 : Fld Z T229.heap b213 "com/example/orderd/orderd/provider/Reply" "status" "I" (.int (0 : Int32)) := Fld.keep f_271 Kq229 (ninS ne_b213_b223_274 nin0)
      have f_275 : Fld Z h220 b213 "com/example/orderd/orderd/provider/Reply" "contentType" "Ljava/lang/String;" .null := Fld.ext E220 f_218
      have f_276 : Fld Z h223 b213 "com/example/orderd/orderd/provider/Reply" "contentType" "Ljava/lang/String;" .null := Fld.ext E223 f_275
      have f_277 : Fld Z T229.heap b213 "com/example/orderd/orderd/provider/Reply" "contentType" "Ljava/lang/String;" .null := Fld.keep f_276 Kq229 (ninS ne_b213_b223_274 nin0)
      have f_278 : Fld Z h220 b213 "com/example/orderd/orderd/provider/Reply" "body" "[B" .null := Fld.ext E220 f_219
      have f_279 : Fld Z h223 b213 "com/example/orderd/orderd/provider/Reply" "body" "[B" .null := Fld.ext E223 f_278
      have f_280 : Fld Z T229.heap b213 "com/example/orderd/orderd/provider/Reply" "body" "[B" .null := Fld.keep f_279 Kq229 (ninS ne_b213_b223_274 nin0)
      have f_281 : Exa Z T229.heap b223 "java/lang/String" := Exa.keep f_226 Kq229
      have f_282 : Fld Z h220 b213 "com/example/orderd/orderd/provider/Reply" "body" "[B" .null := Fld.ext E220 f_219
      have f_283 : Fld Z h223 b213 "com/example/orderd/orderd/provider/Reply" "body" "[B" .null := Fld.ext E223 f_282
      have ne_b213_ar_229_284 : b213 ≠ ar_229 := Nat.ne_of_lt (Nat.lt_of_lt_of_le f_283.lt o229_0)
      obtain ⟨_, _, ⟨T247, L247, k247, n247⟩, -, X247, ⟨Lc247, hQ247, l247, y247, z247⟩, st247⟩ := X229.specialBack hx (y := (⟨"com/example/orderd/orderd/provider/Reply", "<init>", "(ILjava/lang/String;Ljava/lang/String;)V"⟩ : MethodName)) rfl hown220 (mvT hZ220 (hw _ (List.mem_of_getElem? (i := 36) rfl))) (mvT hZ220 (hw _ (List.mem_of_getElem? (i := 37) rfl))) (mvT hZ220 (hw _ (List.mem_of_getElem? (i := 38) rfl))) (by decide) (backOf (W := 1) (rm7 l Z a0 hw [] b213 p0 a220 b223 u8 cs ar_229 kb_229 (((nar .char ((p2 &&& (255 : Int32)).toUInt32.toUInt16.toUInt32.toInt32)).toInt8.toInt32).toInt8.toInt32) T229.heap n0 Z245 f_256 f_265 f_266 (hcs) f_269 g_b213 ne_b213_b223_274 ne_b213_ar_229_284 f_272 f_277 f_280 f_281 o229_1 o229_2 o229_3 o229_4) hZ220 (hw _ (List.mem_of_getElem? (i := 38) rfl)) (hw _ (List.mem_of_getElem? (i := 3) rfl)) (by decide) (by decide)) (g := (mkF m 84 #[.val (.int p0), .val (.int p1), .val (.int p2), .val (.int p3), .val (.int (1 : Int32)), .val (.int (1 : Int32)), .val (.ref b193), .val (.ref b201), .unset, .unset, .unset] [(.ref b223), (.ref a220), (.int p0), (.ref b213), (.ref b213)])) rfl (by rw [hml]; rfl) (Steps.refl _) (a := b213) (argsL := [(.int p0), (.ref a220), (.ref b223)]) (rest := [(.ref b213)]) (lenOf own_pd308 rfl) rfl (by show 2 * 0 + _ ≤ _; exact Nat.le_of_eq rfl) (hb hby at_84) (fun _ _ => ⟨rfl, rfl, (by decide : 7 + 1 ≤ _), (by decide : 55 + 2 ≤ _)⟩)
      dsimp only [Pt.U, Pt.locs, Pt.cells, Pt.slots] at X247 l247 y247 z247 st247 hQ247
      subst l247 y247 z247
      obtain ⟨rfl, N247q, Kq247⟩ := hQ247
      have N247 := Fr.app N229 N247q
      have Z285 : n0 ≤ T247.heap.size := Nat.le_trans Z245 Kq247.1
      have hk286 := Nat.le_trans hk246 Kq247.1
      refine Good.back (fun _ k => st247.trans k) ?_
      show Good p e below _ (T247.setTop (mkF m 87 #[.val (.int p0), .val (.int p1), .val (.int p2), .val (.int p3), .val (.int (1 : Int32)), .val (.int (1 : Int32)), .val (.ref b193), .val (.ref b201), .unset, .unset, .unset] [(.ref b213)]))
      refine Good.back (fun _ k => XS.goto X247.here hx rfl (pc0 := 87) (pc' := 91) rfl (hb hby at_87) (by decide) (by decide) k) ?_
      show Good p e below _ (T247.setTop (mkF m 91 #[.val (.int p0), .val (.int p1), .val (.int p2), .val (.int p3), .val (.int (1 : Int32)), .val (.int (1 : Int32)), .val (.ref b193), .val (.ref b201), .unset, .unset, .unset] [(.ref b213)]))
      refine Good.back (fun _ k => XS.astore X247.here hx rfl (hb hby at_91) rfl rfl (l' := #[.val (.int p0), .val (.int p1), .val (.int p2), .val (.int p3), .val (.int (1 : Int32)), .val (.int (1 : Int32)), .val (.ref b193), .val (.ref b201), .val (.ref b213), .unset, .unset]) rfl k) ?_
      show Good p e below _ (T247.setTop (mkF m 93 #[.val (.int p0), .val (.int p1), .val (.int p2), .val (.int p3), .val (.int (1 : Int32)), .val (.int (1 : Int32)), .val (.ref b193), .val (.ref b201), .val (.ref b213), .unset, .unset] []))
      refine Good.back (fun _ k => XS.iload X247.here hx rfl (hb hby at_93) rfl k) ?_
      show Good p e below _ (T247.setTop (mkF m 95 #[.val (.int p0), .val (.int p1), .val (.int p2), .val (.int p3), .val (.int (1 : Int32)), .val (.int (1 : Int32)), .val (.ref b193), .val (.ref b201), .val (.ref b213), .unset, .unset] [(.int (1 : Int32))]))
      refine Good.back (fun _ k => XS.ifNo X247.here hx rfl (hb hby at_95) rfl ((if0 _ _).trans (feq (by decide : ¬ ((1 : Int32) = (0 : Int32)))).1) k) ?_
      show Good p e below _ (T247.setTop (mkF m 98 #[.val (.int p0), .val (.int p1), .val (.int p2), .val (.int p3), .val (.int (1 : Int32)), .val (.int (1 : Int32)), .val (.ref b193), .val (.ref b201), .val (.ref b213), .unset, .unset] []))
      obtain ⟨T287, h287, X287, e287, E287, A287, D287, -, st287⟩ := newO X247 hx hZ220 hown220 (hw _ (List.mem_of_getElem? (i := 12) rfl)) (hw _ (List.mem_of_getElem? (i := 6) rfl)) (hw _ (List.mem_of_getElem? (i := 5) rfl)) rfl (g := (mkF m 98 #[.val (.int p0), .val (.int p1), .val (.int p2), .val (.int p3), .val (.int (1 : Int32)), .val (.int (1 : Int32)), .val (.ref b193), .val (.ref b201), .val (.ref b213), .unset, .unset] [])) rfl (hb hby at_98) (by decide) (by decide)
      obtain ⟨b287, g287⟩ : ∃ z, z = T247.heap.size := ⟨_, rfl⟩
      rw [← g287] at A287 D287 st287
      refine Good.back st287 ?_
      have g_b287 : n0 ≤ b287 := Nat.le_trans Z285 (Nat.le_of_eq g287.symm)
      have Z288 : n0 ≤ h287.size := Nat.le_trans Z285 E287.1
      have hk289 := Nat.le_trans hk286 E287.1
      have f_290 : Exa Z h287 b287 "java/lang/String" := A287
      have f_291 : Fld Z h287 b287 "java/lang/String" "value" "[B" .null := D287 (Or.inr (hw _ (List.mem_of_getElem? (i := 8) rfl))) (ty := (.array .byte)) (by decide)
      have f_292 : Fld Z h287 b287 "java/lang/String" "coder" "B" (.int (0 : Int32)) := D287 (Or.inr (hw _ (List.mem_of_getElem? (i := 9) rfl))) (ty := .byte) (by decide)
      show Good p e below _ (T287.setTop (mkF m 101 #[.val (.int p0), .val (.int p1), .val (.int p2), .val (.int p3), .val (.int (1 : Int32)), .val (.int (1 : Int32)), .val (.ref b193), .val (.ref b201), .val (.ref b213), .unset, .unset] [(.ref b287)]))
      refine Good.back (fun _ k => XS.dup X287.here hx rfl (hb hby at_101) rfl rfl k) ?_
      show Good p e below _ (T287.setTop (mkF m 102 #[.val (.int p0), .val (.int p1), .val (.int p2), .val (.int p3), .val (.int (1 : Int32)), .val (.int (1 : Int32)), .val (.ref b193), .val (.ref b201), .val (.ref b213), .unset, .unset] [(.ref b287), (.ref b287)]))
      refine Good.back (fun _ k => XS.aload X287.here hx rfl (hb hby at_102) rfl rfl k) ?_
      show Good p e below _ (T287.setTop (mkF m 104 #[.val (.int p0), .val (.int p1), .val (.int p2), .val (.int p3), .val (.int (1 : Int32)), .val (.int (1 : Int32)), .val (.ref b193), .val (.ref b201), .val (.ref b213), .unset, .unset] [(.ref b201), (.ref b287), (.ref b287)]))
      have f_294 : Sta Z T247.heap "java/lang/String" "COMPACT_STRINGS" "Z" (.int cs) := own_staKeep f_266 Kq247 (allS (own_plainE f_269) all0)
      have f_295 : Sta Z h287 "java/lang/String" "COMPACT_STRINGS" "Z" (.int cs) := Sta.ext E287 f_294
      have f_296 : Arv Z h213 b201 k201 .char (2 : Int32) [(.int (nar .char ((p1 &&& (255 : Int32)).toUInt32.toUInt16.toUInt32.toInt32))), (.int (nar .char ((p2 &&& (255 : Int32)).toUInt32.toUInt16.toUInt32.toInt32)))] (.int (0 : Int32)) := Arv.ext f_210 E213
      have f_297 : Arv Z h220 b201 k201 .char (2 : Int32) [(.int (nar .char ((p1 &&& (255 : Int32)).toUInt32.toUInt16.toUInt32.toInt32))), (.int (nar .char ((p2 &&& (255 : Int32)).toUInt32.toUInt16.toUInt32.toInt32)))] (.int (0 : Int32)) := Arv.ext f_296 E220
      have f_298 : Arv Z h223 b201 k201 .char (2 : Int32) [(.int (nar .char ((p1 &&& (255 : Int32)).toUInt32.toUInt16.toUInt32.toInt32))), (.int (nar .char ((p2 &&& (255 : Int32)).toUInt32.toUInt16.toUInt32.toInt32)))] (.int (0 : Int32)) := Arv.ext f_297 E223
      have f_300 : Arv Z h213 b201 k201 .char (2 : Int32) [(.int (nar .char ((p1 &&& (255 : Int32)).toUInt32.toUInt16.toUInt32.toInt32))), (.int (nar .char ((p2 &&& (255 : Int32)).toUInt32.toUInt16.toUInt32.toInt32)))] (.int (0 : Int32)) := Arv.ext f_210 E213
      have f_301 : Arv Z h220 b201 k201 .char (2 : Int32) [(.int (nar .char ((p1 &&& (255 : Int32)).toUInt32.toUInt16.toUInt32.toInt32))), (.int (nar .char ((p2 &&& (255 : Int32)).toUInt32.toUInt16.toUInt32.toInt32)))] (.int (0 : Int32)) := Arv.ext f_300 E220
      have ne_b201_b223_302 : b201 ≠ b223 := Nat.ne_of_lt (Nat.lt_of_lt_of_le f_301.lt (Nat.le_of_eq g223.symm))
      have f_299 : Arv Z T229.heap b201 k201 .char (2 : Int32) [(.int (nar .char ((p1 &&& (255 : Int32)).toUInt32.toUInt16.toUInt32.toInt32))), (.int (nar .char ((p2 &&& (255 : Int32)).toUInt32.toUInt16.toUInt32.toInt32)))] (.int (0 : Int32)) := Arv.keep f_298 Kq229 (ninS ne_b201_b223_302 nin0)
      have ne_b201_b213_304 : b201 ≠ b213 := Nat.ne_of_lt (Nat.lt_of_lt_of_le f_210.lt (Nat.le_of_eq g213.symm))
      have f_303 : Arv Z T247.heap b201 k201 .char (2 : Int32) [(.int (nar .char ((p1 &&& (255 : Int32)).toUInt32.toUInt16.toUInt32.toInt32))), (.int (nar .char ((p2 &&& (255 : Int32)).toUInt32.toUInt16.toUInt32.toInt32)))] (.int (0 : Int32)) := Arv.keep f_299 Kq247 (ninS ne_b201_b213_304 nin0)
      have f_305 : Arv Z h287 b201 k201 .char (2 : Int32) [(.int (nar .char ((p1 &&& (255 : Int32)).toUInt32.toUInt16.toUInt32.toInt32))), (.int (nar .char ((p2 &&& (255 : Int32)).toUInt32.toUInt16.toUInt32.toInt32)))] (.int (0 : Int32)) := Arv.ext f_303 E287
      obtain ⟨_, _, ⟨T293, L293, k293, n293⟩, -, X293, ⟨Lc293, hQ293, l293, y293, z293⟩, st293⟩ := X287.specialBack hx (y := (⟨"java/lang/String", "<init>", "([C)V"⟩ : MethodName)) rfl hown220 (mvT hZ220 (hw _ (List.mem_of_getElem? (i := 13) rfl))) (mvT hZ220 (hw _ (List.mem_of_getElem? (i := 14) rfl))) (mvT hZ220 (hw _ (List.mem_of_getElem? (i := 15) rfl))) (by decide) (backOf (W := 1) (rm1n2 l Z a0 hw [] b287 b201 cs k201 (nar .char ((p1 &&& (255 : Int32)).toUInt32.toUInt16.toUInt32.toInt32)) (nar .char ((p2 &&& (255 : Int32)).toUInt32.toUInt16.toUInt32.toInt32)) h287 n0 Z288 f_295 (hcs) f_290 g_b287 f_291 f_292 f_305 (own_charN p1) (own_charN p2)) hZ220 (hw _ (List.mem_of_getElem? (i := 15) rfl)) (hw _ (List.mem_of_getElem? (i := 5) rfl)) (by decide) (by decide)) (g := (mkF m 104 #[.val (.int p0), .val (.int p1), .val (.int p2), .val (.int p3), .val (.int (1 : Int32)), .val (.int (1 : Int32)), .val (.ref b193), .val (.ref b201), .val (.ref b213), .unset, .unset] [(.ref b201), (.ref b287), (.ref b287)])) rfl (by rw [hml]; rfl) (Steps.refl _) (a := b287) (argsL := [(.ref b201)]) (rest := [(.ref b287)]) (lenOf own_pd307 rfl) rfl (by show 2 * 0 + _ ≤ _; exact Nat.le_of_eq rfl) (hb hby at_104) (fun _ _ => ⟨rfl, e287, (by decide : 9 + 1 ≤ _), (by decide : 61 + 2 ≤ _)⟩)
      dsimp only [Pt.U, Pt.locs, Pt.cells, Pt.slots] at X293 l293 y293 z293 st293 hQ293
      subst l293 y293 z293
      obtain ⟨ar_293, kb_293, rfl, N293q, Kq293, o293_0, o293_1, o293_2, o293_3, o293_4⟩ := hQ293
      have N293 := Fr.app N247 N293q
      have Z306 : n0 ≤ T293.heap.size := Nat.le_trans Z288 Kq293.1
      have hk307 := Nat.le_trans hk289 Kq293.1
      have g_ar_293 : n0 ≤ ar_293 := Nat.le_trans Z288 o293_0
      refine Good.back (fun _ k => st293.trans k) ?_
      show Good p e below _ (T293.setTop (mkF m 107 #[.val (.int p0), .val (.int p1), .val (.int p2), .val (.int p3), .val (.int (1 : Int32)), .val (.int (1 : Int32)), .val (.ref b193), .val (.ref b201), .val (.ref b213), .unset, .unset] [(.ref b287)]))
      refine Good.back (fun _ k => XS.goto X293.here hx rfl (pc0 := 107) (pc' := 111) rfl (hb hby at_107) (by decide) (by decide) k) ?_
      show Good p e below _ (T293.setTop (mkF m 111 #[.val (.int p0), .val (.int p1), .val (.int p2), .val (.int p3), .val (.int (1 : Int32)), .val (.int (1 : Int32)), .val (.ref b193), .val (.ref b201), .val (.ref b213), .unset, .unset] [(.ref b287)]))
      refine Good.back (fun _ k => XS.astore X293.here hx rfl (hb hby at_111) rfl rfl (l' := #[.val (.int p0), .val (.int p1), .val (.int p2), .val (.int p3), .val (.int (1 : Int32)), .val (.int (1 : Int32)), .val (.ref b193), .val (.ref b201), .val (.ref b213), .val (.ref b287), .unset]) rfl k) ?_
      show Good p e below _ (T293.setTop (mkF m 113 #[.val (.int p0), .val (.int p1), .val (.int p2), .val (.int p3), .val (.int (1 : Int32)), .val (.int (1 : Int32)), .val (.ref b193), .val (.ref b201), .val (.ref b213), .val (.ref b287), .unset] []))
      refine Good.back (fun _ k => XS.aload X293.here hx rfl (hb hby at_113) rfl rfl k) ?_
      show Good p e below _ (T293.setTop (mkF m 115 #[.val (.int p0), .val (.int p1), .val (.int p2), .val (.int p3), .val (.int (1 : Int32)), .val (.int (1 : Int32)), .val (.ref b193), .val (.ref b201), .val (.ref b213), .val (.ref b287), .unset] [(.ref b213)]))
      refine Good.back (fun _ k => XS.aload X293.here hx rfl (hb hby at_115) rfl rfl k) ?_
      show Good p e below _ (T293.setTop (mkF m 117 #[.val (.int p0), .val (.int p1), .val (.int p2), .val (.int p3), .val (.int (1 : Int32)), .val (.int (1 : Int32)), .val (.ref b193), .val (.ref b201), .val (.ref b213), .val (.ref b287), .unset] [(.ref b287), (.ref b213)]))
      obtain ⟨_, _, ⟨T308, L308, k308, n308⟩, -, X308, ⟨Lc308, hQ308, l308, y308, z308⟩, st308⟩ := Jvm.LawKit.callS X293 hx (y := (⟨"com/example/orderd/orderd/provider/Notice", "badRequest", "(Lcom/example/orderd/orderd/provider/Reply;Ljava/lang/String;)Lcom/example/orderd/orderd/provider/Notice;"⟩ : MethodName)) hown220 (mvT hZ220 (hw _ (List.mem_of_getElem? (i := 82) rfl))) (mvT hZ220 (hw _ (List.mem_of_getElem? (i := 83) rfl))) (mvT hZ220 (hw _ (List.mem_of_getElem? (i := 84) rfl))) (mvT hZ220 (hw _ (List.mem_of_getElem? (i := 85) rfl))) (by decide) (backOf (W := 0) (rm14_11 l Z a0 hw [] b213 b287  T293.heap n0 Z306 ) hZ220 (hw _ (List.mem_of_getElem? (i := 85) rfl)) (hw _ (List.mem_of_getElem? (i := 84) rfl)) (by decide) (by decide)) (g := (mkF m 117 #[.val (.int p0), .val (.int p1), .val (.int p2), .val (.int p3), .val (.int (1 : Int32)), .val (.int (1 : Int32)), .val (.ref b193), .val (.ref b201), .val (.ref b213), .val (.ref b287), .unset] [(.ref b287), (.ref b213)])) rfl (by rw [hml]; rfl) (argsL := [(.ref b213), (.ref b287)]) (rest := []) (lenOf own_pd301 rfl) rfl (by show 2 * 0 + _ ≤ _; exact Nat.le_of_eq rfl) (hb hby at_117) (fun _ _ => ⟨rfl, rfl, (by decide : 10 + 1 ≤ _), (by decide : 63 + 7 ≤ _)⟩)
      dsimp only [Pt.U, Pt.locs, Pt.cells, Pt.slots] at X308 l308 y308 z308 st308 hQ308
      subst l308 y308 z308
      obtain ⟨nr_308, rfl, N308q, Kq308, o308_0, o308_1, o308_2, o308_3, o308_4, o308_5, o308_6, o308_7, o308_8⟩ := hQ308
      have N308 := Fr.app N293 N308q
      have Z309 : n0 ≤ T308.heap.size := Nat.le_trans Z306 Kq308.1
      have hk310 := Nat.le_trans hk307 Kq308.1
      have g_nr_308 : n0 ≤ nr_308 := Nat.le_trans Z306 o308_0
      refine Good.back st308 ?_
      show Good p e below _ (T308.setTop (mkF m 120 #[.val (.int p0), .val (.int p1), .val (.int p2), .val (.int p3), .val (.int (1 : Int32)), .val (.int (1 : Int32)), .val (.ref b193), .val (.ref b201), .val (.ref b213), .val (.ref b287), .unset] [(.ref nr_308)]))
      refine Good.back (fun _ k => XS.astore X308.here hx rfl (hb hby at_120) rfl rfl (l' := #[.val (.int p0), .val (.int p1), .val (.int p2), .val (.int p3), .val (.int (1 : Int32)), .val (.int (1 : Int32)), .val (.ref b193), .val (.ref b201), .val (.ref b213), .val (.ref b287), .val (.ref nr_308)]) rfl k) ?_
      show Good p e below _ (T308.setTop (mkF m 122 #[.val (.int p0), .val (.int p1), .val (.int p2), .val (.int p3), .val (.int (1 : Int32)), .val (.int (1 : Int32)), .val (.ref b193), .val (.ref b201), .val (.ref b213), .val (.ref b287), .val (.ref nr_308)] []))
      refine Good.back (fun _ k => XS.aload X308.here hx rfl (hb hby at_122) rfl rfl k) ?_
      show Good p e below _ (T308.setTop (mkF m 124 #[.val (.int p0), .val (.int p1), .val (.int p2), .val (.int p3), .val (.int (1 : Int32)), .val (.int (1 : Int32)), .val (.ref b193), .val (.ref b201), .val (.ref b213), .val (.ref b287), .val (.ref nr_308)] [(.ref nr_308)]))
      obtain ⟨cq311, kq311, q311a, q311b, q311c⟩ := isOf hZ220 rfl o308_1
      obtain ⟨_, _, ⟨T311, L311, k311, n311⟩, -, X311, ⟨Lc311, hQ311, l311, y311, z311⟩, st311⟩ := X308.virtualBack hx (y := (⟨"com/example/orderd/orderd/provider/Notice", "isRefused", "()Z"⟩ : MethodName)) (z := (⟨"com/example/orderd/orderd/provider/Notice", "isRefused", "()Z"⟩ : MethodName)) hown220 (mvT hZ220 (hw _ (List.mem_of_getElem? (i := 106) rfl))) (mvT hZ220 (hw _ (List.mem_of_getElem? (i := 107) rfl))) (notFace_of_selects (args := #[]) (mvT hZ220 (hw _ (List.mem_of_getElem? (i := 109) rfl)))) (mvT hZ220 (hw _ (List.mem_of_getElem? (i := 109) rfl))) (mvT hZ220 (hw _ (List.mem_of_getElem? (i := 108) rfl))) (by decide) (backOf (W := 0) (rm16 l Z a0 hw [] nr_308  T308.heap n0 Z309 o308_2) hZ220 (hw _ (List.mem_of_getElem? (i := 110) rfl)) (hw _ (List.mem_of_getElem? (i := 84) rfl)) (by decide) (by decide)) q311a q311c (g := (mkF m 124 #[.val (.int p0), .val (.int p1), .val (.int p2), .val (.int p3), .val (.int (1 : Int32)), .val (.int (1 : Int32)), .val (.ref b193), .val (.ref b201), .val (.ref b213), .val (.ref b287), .val (.ref nr_308)] [(.ref nr_308)])) rfl (by rw [hml]; rfl) (Steps.refl _) (argsL := []) (rest := []) (lenOf own_pd302 rfl) rfl (by show 2 * 0 + _ ≤ _; exact Nat.le_of_eq rfl) (hb hby at_124) (fun _ _ => ⟨rfl, rfl, (by decide : 11 + 0 ≤ _), (by decide : 70 + 0 ≤ _)⟩)
      dsimp only [Pt.U, Pt.locs, Pt.cells, Pt.slots] at X311 l311 y311 z311 st311 hQ311
      subst l311 y311 z311
      obtain ⟨rfl, N311q, eh311⟩ := hQ311
      have N311 := Fr.app N308 N311q
      refine Good.back (fun _ k => st311.trans k) ?_
      show Good p e below _ (T311.setTop (mkF m 127 #[.val (.int p0), .val (.int p1), .val (.int p2), .val (.int p3), .val (.int (1 : Int32)), .val (.int (1 : Int32)), .val (.ref b193), .val (.ref b201), .val (.ref b213), .val (.ref b287), .val (.ref nr_308)] [(.int (1 : Int32))]))
      refine Good.back (fun _ k => XS.ifNo X311.here hx rfl (hb hby at_127) rfl ((if0 _ _).trans (feq (by decide : ¬ ((1 : Int32) = (0 : Int32)))).1) k) ?_
      show Good p e below _ (T311.setTop (mkF m 130 #[.val (.int p0), .val (.int p1), .val (.int p2), .val (.int p3), .val (.int (1 : Int32)), .val (.int (1 : Int32)), .val (.ref b193), .val (.ref b201), .val (.ref b213), .val (.ref b287), .val (.ref nr_308)] []))
      refine Good.back (fun _ k => XS.aload X311.here hx rfl (hb hby at_130) rfl rfl k) ?_
      show Good p e below _ (T311.setTop (mkF m 132 #[.val (.int p0), .val (.int p1), .val (.int p2), .val (.int p3), .val (.int (1 : Int32)), .val (.int (1 : Int32)), .val (.ref b193), .val (.ref b201), .val (.ref b213), .val (.ref b287), .val (.ref nr_308)] [(.ref nr_308)]))
      obtain ⟨cq312, kq312, q312a, q312b, q312c⟩ := isOf hZ220 eh311 o308_1
      obtain ⟨_, _, ⟨T312, L312, k312, n312⟩, -, X312, ⟨Lc312, hQ312, l312, y312, z312⟩, st312⟩ := X311.virtualBack hx (y := (⟨"com/example/orderd/orderd/provider/Notice", "isBadRequest", "()Z"⟩ : MethodName)) (z := (⟨"com/example/orderd/orderd/provider/Notice", "isBadRequest", "()Z"⟩ : MethodName)) hown220 (mvT hZ220 (hw _ (List.mem_of_getElem? (i := 111) rfl))) (mvT hZ220 (hw _ (List.mem_of_getElem? (i := 112) rfl))) (notFace_of_selects (args := #[]) (mvT hZ220 (hw _ (List.mem_of_getElem? (i := 114) rfl)))) (mvT hZ220 (hw _ (List.mem_of_getElem? (i := 114) rfl))) (mvT hZ220 (hw _ (List.mem_of_getElem? (i := 113) rfl))) (by decide) (backOf (W := 0) (rm17 l Z a0 hw [] nr_308  T308.heap n0 Z309 o308_8) hZ220 (hw _ (List.mem_of_getElem? (i := 115) rfl)) (hw _ (List.mem_of_getElem? (i := 84) rfl)) (by decide) (by decide)) q312a q312c (g := (mkF m 132 #[.val (.int p0), .val (.int p1), .val (.int p2), .val (.int p3), .val (.int (1 : Int32)), .val (.int (1 : Int32)), .val (.ref b193), .val (.ref b201), .val (.ref b213), .val (.ref b287), .val (.ref nr_308)] [(.ref nr_308)])) rfl (by rw [hml]; rfl) (Steps.refl _) (argsL := []) (rest := []) (lenOf own_pd302 rfl) rfl (by show 2 * 0 + _ ≤ _; exact Nat.le_of_eq rfl) (hb hby at_132) (fun _ _ => ⟨rfl, eh311, (by decide : 11 + 0 ≤ _), (by decide : 70 + 0 ≤ _)⟩)
      dsimp only [Pt.U, Pt.locs, Pt.cells, Pt.slots] at X312 l312 y312 z312 st312 hQ312
      subst l312 y312 z312
      obtain ⟨rfl, N312q, eh312⟩ := hQ312
      have N312 := Fr.app N311 N312q
      refine Good.back (fun _ k => st312.trans k) ?_
      show Good p e below _ (T312.setTop (mkF m 135 #[.val (.int p0), .val (.int p1), .val (.int p2), .val (.int p3), .val (.int (1 : Int32)), .val (.int (1 : Int32)), .val (.ref b193), .val (.ref b201), .val (.ref b213), .val (.ref b287), .val (.ref nr_308)] [(.int (1 : Int32))]))
      refine Good.back (fun _ k => XS.ifNo X312.here hx rfl (hb hby at_135) rfl ((if0 _ _).trans (feq (by decide : ¬ ((1 : Int32) = (0 : Int32)))).1) k) ?_
      show Good p e below _ (T312.setTop (mkF m 138 #[.val (.int p0), .val (.int p1), .val (.int p2), .val (.int p3), .val (.int (1 : Int32)), .val (.int (1 : Int32)), .val (.ref b193), .val (.ref b201), .val (.ref b213), .val (.ref b287), .val (.ref nr_308)] []))
      refine Good.back (fun _ k => XS.aload X312.here hx rfl (hb hby at_138) rfl rfl k) ?_
      show Good p e below _ (T312.setTop (mkF m 140 #[.val (.int p0), .val (.int p1), .val (.int p2), .val (.int p3), .val (.int (1 : Int32)), .val (.int (1 : Int32)), .val (.ref b193), .val (.ref b201), .val (.ref b213), .val (.ref b287), .val (.ref nr_308)] [(.ref nr_308)]))
      obtain ⟨cq313, kq313, q313a, q313b, q313c⟩ := isOf hZ220 eh312 o308_1
      obtain ⟨_, _, ⟨T313, L313, k313, n313⟩, -, X313, ⟨Lc313, hQ313, l313, y313, z313⟩, st313⟩ := X312.virtualBack hx (y := (⟨"com/example/orderd/orderd/provider/Notice", "isRejected", "()Z"⟩ : MethodName)) (z := (⟨"com/example/orderd/orderd/provider/Notice", "isRejected", "()Z"⟩ : MethodName)) hown220 (mvT hZ220 (hw _ (List.mem_of_getElem? (i := 116) rfl))) (mvT hZ220 (hw _ (List.mem_of_getElem? (i := 117) rfl))) (notFace_of_selects (args := #[]) (mvT hZ220 (hw _ (List.mem_of_getElem? (i := 119) rfl)))) (mvT hZ220 (hw _ (List.mem_of_getElem? (i := 119) rfl))) (mvT hZ220 (hw _ (List.mem_of_getElem? (i := 118) rfl))) (by decide) (backOf (W := 0) (rm18 l Z a0 hw [] nr_308  T308.heap n0 Z309 o308_6) hZ220 (hw _ (List.mem_of_getElem? (i := 120) rfl)) (hw _ (List.mem_of_getElem? (i := 84) rfl)) (by decide) (by decide)) q313a q313c (g := (mkF m 140 #[.val (.int p0), .val (.int p1), .val (.int p2), .val (.int p3), .val (.int (1 : Int32)), .val (.int (1 : Int32)), .val (.ref b193), .val (.ref b201), .val (.ref b213), .val (.ref b287), .val (.ref nr_308)] [(.ref nr_308)])) rfl (by rw [hml]; rfl) (Steps.refl _) (argsL := []) (rest := []) (lenOf own_pd302 rfl) rfl (by show 2 * 0 + _ ≤ _; exact Nat.le_of_eq rfl) (hb hby at_140) (fun _ _ => ⟨rfl, eh312, (by decide : 11 + 0 ≤ _), (by decide : 70 + 0 ≤ _)⟩)
      dsimp only [Pt.U, Pt.locs, Pt.cells, Pt.slots] at X313 l313 y313 z313 st313 hQ313
      subst l313 y313 z313
      obtain ⟨rfl, N313q, eh313⟩ := hQ313
      have N313 := Fr.app N312 N313q
      refine Good.back (fun _ k => st313.trans k) ?_
      show Good p e below _ (T313.setTop (mkF m 143 #[.val (.int p0), .val (.int p1), .val (.int p2), .val (.int p3), .val (.int (1 : Int32)), .val (.int (1 : Int32)), .val (.ref b193), .val (.ref b201), .val (.ref b213), .val (.ref b287), .val (.ref nr_308)] [(.int (0 : Int32))]))
      refine Good.back (fun _ k => XS.ifNo X313.here hx rfl (hb hby at_143) rfl ((if0 _ _).trans (teq (by decide : ((0 : Int32) = (0 : Int32)))).2) k) ?_
      show Good p e below _ (T313.setTop (mkF m 146 #[.val (.int p0), .val (.int p1), .val (.int p2), .val (.int p3), .val (.int (1 : Int32)), .val (.int (1 : Int32)), .val (.ref b193), .val (.ref b201), .val (.ref b213), .val (.ref b287), .val (.ref nr_308)] []))
      refine Good.back (fun _ k => XS.aload X313.here hx rfl (hb hby at_146) rfl rfl k) ?_
      show Good p e below _ (T313.setTop (mkF m 148 #[.val (.int p0), .val (.int p1), .val (.int p2), .val (.int p3), .val (.int (1 : Int32)), .val (.int (1 : Int32)), .val (.ref b193), .val (.ref b201), .val (.ref b213), .val (.ref b287), .val (.ref nr_308)] [(.ref nr_308)]))
      obtain ⟨cq314, kq314, q314a, q314b, q314c⟩ := isOf hZ220 eh313 o308_1
      obtain ⟨_, _, ⟨T314, L314, k314, n314⟩, -, X314, ⟨Lc314, hQ314, l314, y314, z314⟩, st314⟩ := X313.virtualBack hx (y := (⟨"com/example/orderd/orderd/provider/Notice", "isRefund", "()Z"⟩ : MethodName)) (z := (⟨"com/example/orderd/orderd/provider/Notice", "isRefund", "()Z"⟩ : MethodName)) hown220 (mvT hZ220 (hw _ (List.mem_of_getElem? (i := 121) rfl))) (mvT hZ220 (hw _ (List.mem_of_getElem? (i := 122) rfl))) (notFace_of_selects (args := #[]) (mvT hZ220 (hw _ (List.mem_of_getElem? (i := 124) rfl)))) (mvT hZ220 (hw _ (List.mem_of_getElem? (i := 124) rfl))) (mvT hZ220 (hw _ (List.mem_of_getElem? (i := 123) rfl))) (by decide) (backOf (W := 0) (rm19 l Z a0 hw [] nr_308  T308.heap n0 Z309 o308_3) hZ220 (hw _ (List.mem_of_getElem? (i := 125) rfl)) (hw _ (List.mem_of_getElem? (i := 84) rfl)) (by decide) (by decide)) q314a q314c (g := (mkF m 148 #[.val (.int p0), .val (.int p1), .val (.int p2), .val (.int p3), .val (.int (1 : Int32)), .val (.int (1 : Int32)), .val (.ref b193), .val (.ref b201), .val (.ref b213), .val (.ref b287), .val (.ref nr_308)] [(.ref nr_308)])) rfl (by rw [hml]; rfl) (Steps.refl _) (argsL := []) (rest := []) (lenOf own_pd302 rfl) rfl (by show 2 * 0 + _ ≤ _; exact Nat.le_of_eq rfl) (hb hby at_148) (fun _ _ => ⟨rfl, eh313, (by decide : 11 + 0 ≤ _), (by decide : 70 + 0 ≤ _)⟩)
      dsimp only [Pt.U, Pt.locs, Pt.cells, Pt.slots] at X314 l314 y314 z314 st314 hQ314
      subst l314 y314 z314
      obtain ⟨rfl, N314q, eh314⟩ := hQ314
      have N314 := Fr.app N313 N314q
      refine Good.back (fun _ k => st314.trans k) ?_
      show Good p e below _ (T314.setTop (mkF m 151 #[.val (.int p0), .val (.int p1), .val (.int p2), .val (.int p3), .val (.int (1 : Int32)), .val (.int (1 : Int32)), .val (.ref b193), .val (.ref b201), .val (.ref b213), .val (.ref b287), .val (.ref nr_308)] [(.int (0 : Int32))]))
      refine Good.back (fun _ k => XS.ifNo X314.here hx rfl (hb hby at_151) rfl ((if0 _ _).trans (teq (by decide : ((0 : Int32) = (0 : Int32)))).2) k) ?_
      show Good p e below _ (T314.setTop (mkF m 154 #[.val (.int p0), .val (.int p1), .val (.int p2), .val (.int p3), .val (.int (1 : Int32)), .val (.int (1 : Int32)), .val (.ref b193), .val (.ref b201), .val (.ref b213), .val (.ref b287), .val (.ref nr_308)] []))
      refine Good.back (fun _ k => XS.aload X314.here hx rfl (hb hby at_154) rfl rfl k) ?_
      show Good p e below _ (T314.setTop (mkF m 156 #[.val (.int p0), .val (.int p1), .val (.int p2), .val (.int p3), .val (.int (1 : Int32)), .val (.int (1 : Int32)), .val (.ref b193), .val (.ref b201), .val (.ref b213), .val (.ref b287), .val (.ref nr_308)] [(.ref nr_308)]))
      obtain ⟨cq315, kq315, q315a, q315b, q315c⟩ := isOf hZ220 eh314 o308_1
      obtain ⟨_, _, ⟨T315, L315, k315, n315⟩, -, X315, ⟨Lc315, hQ315, l315, y315, z315⟩, st315⟩ := X314.virtualBack hx (y := (⟨"com/example/orderd/orderd/provider/Notice", "order", "()Lcom/example/orderd/orderd/order/Order;"⟩ : MethodName)) (z := (⟨"com/example/orderd/orderd/provider/Notice", "order", "()Lcom/example/orderd/orderd/order/Order;"⟩ : MethodName)) hown220 (mvT hZ220 (hw _ (List.mem_of_getElem? (i := 126) rfl))) (mvT hZ220 (hw _ (List.mem_of_getElem? (i := 127) rfl))) (notFace_of_selects (args := #[]) (mvT hZ220 (hw _ (List.mem_of_getElem? (i := 129) rfl)))) (mvT hZ220 (hw _ (List.mem_of_getElem? (i := 129) rfl))) (mvT hZ220 (hw _ (List.mem_of_getElem? (i := 128) rfl))) (by decide) (backOf (W := 0) (rm20 l Z a0 hw [] nr_308  T308.heap n0 Z309 o308_2) hZ220 (hw _ (List.mem_of_getElem? (i := 130) rfl)) (hw _ (List.mem_of_getElem? (i := 84) rfl)) (by decide) (by decide)) q315a q315c (g := (mkF m 156 #[.val (.int p0), .val (.int p1), .val (.int p2), .val (.int p3), .val (.int (1 : Int32)), .val (.int (1 : Int32)), .val (.ref b193), .val (.ref b201), .val (.ref b213), .val (.ref b287), .val (.ref nr_308)] [(.ref nr_308)])) rfl (by rw [hml]; rfl) (Steps.refl _) (argsL := []) (rest := []) (lenOf own_pd303 rfl) rfl (by show 2 * 0 + _ ≤ _; exact Nat.le_of_eq rfl) (hb hby at_156) (fun _ _ => ⟨rfl, eh314, (by decide : 11 + 0 ≤ _), (by decide : 70 + 0 ≤ _)⟩)
      dsimp only [Pt.U, Pt.locs, Pt.cells, Pt.slots] at X315 l315 y315 z315 st315 hQ315
      subst l315 y315 z315
      obtain ⟨rfl, N315q, eh315⟩ := hQ315
      have N315 := Fr.app N314 N315q
      refine Good.back (fun _ k => st315.trans k) ?_
      show Good p e below _ (T315.setTop (mkF m 159 #[.val (.int p0), .val (.int p1), .val (.int p2), .val (.int p3), .val (.int (1 : Int32)), .val (.int (1 : Int32)), .val (.ref b193), .val (.ref b201), .val (.ref b213), .val (.ref b287), .val (.ref nr_308)] [.null]))
      refine Good.back (fun _ k => XS.ifnonnullNo X315.here hx rfl (hb hby at_159) rfl k) ?_
      show Good p e below _ (T315.setTop (mkF m 162 #[.val (.int p0), .val (.int p1), .val (.int p2), .val (.int p3), .val (.int (1 : Int32)), .val (.int (1 : Int32)), .val (.ref b193), .val (.ref b201), .val (.ref b213), .val (.ref b287), .val (.ref nr_308)] []))
      refine Good.back (fun _ k => XS.aload X315.here hx rfl (hb hby at_162) rfl rfl k) ?_
      show Good p e below _ (T315.setTop (mkF m 164 #[.val (.int p0), .val (.int p1), .val (.int p2), .val (.int p3), .val (.int (1 : Int32)), .val (.int (1 : Int32)), .val (.ref b193), .val (.ref b201), .val (.ref b213), .val (.ref b287), .val (.ref nr_308)] [(.ref nr_308)]))
      obtain ⟨cq316, kq316, q316a, q316b, q316c⟩ := isOf hZ220 eh315 o308_1
      obtain ⟨_, _, ⟨T316, L316, k316, n316⟩, -, X316, ⟨Lc316, hQ316, l316, y316, z316⟩, st316⟩ := X315.virtualBack hx (y := (⟨"com/example/orderd/orderd/provider/Notice", "sign", "()Ljava/lang/String;"⟩ : MethodName)) (z := (⟨"com/example/orderd/orderd/provider/Notice", "sign", "()Ljava/lang/String;"⟩ : MethodName)) hown220 (mvT hZ220 (hw _ (List.mem_of_getElem? (i := 131) rfl))) (mvT hZ220 (hw _ (List.mem_of_getElem? (i := 132) rfl))) (notFace_of_selects (args := #[]) (mvT hZ220 (hw _ (List.mem_of_getElem? (i := 134) rfl)))) (mvT hZ220 (hw _ (List.mem_of_getElem? (i := 134) rfl))) (mvT hZ220 (hw _ (List.mem_of_getElem? (i := 133) rfl))) (by decide) (backOf (W := 0) (rm21 l Z a0 hw [] nr_308  T308.heap n0 Z309 o308_4) hZ220 (hw _ (List.mem_of_getElem? (i := 135) rfl)) (hw _ (List.mem_of_getElem? (i := 84) rfl)) (by decide) (by decide)) q316a q316c (g := (mkF m 164 #[.val (.int p0), .val (.int p1), .val (.int p2), .val (.int p3), .val (.int (1 : Int32)), .val (.int (1 : Int32)), .val (.ref b193), .val (.ref b201), .val (.ref b213), .val (.ref b287), .val (.ref nr_308)] [(.ref nr_308)])) rfl (by rw [hml]; rfl) (Steps.refl _) (argsL := []) (rest := []) (lenOf own_pd304 rfl) rfl (by show 2 * 0 + _ ≤ _; exact Nat.le_of_eq rfl) (hb hby at_164) (fun _ _ => ⟨rfl, eh315, (by decide : 11 + 0 ≤ _), (by decide : 70 + 0 ≤ _)⟩)
      dsimp only [Pt.U, Pt.locs, Pt.cells, Pt.slots] at X316 l316 y316 z316 st316 hQ316
      subst l316 y316 z316
      obtain ⟨rfl, N316q, eh316⟩ := hQ316
      have N316 := Fr.app N315 N316q
      refine Good.back (fun _ k => st316.trans k) ?_
      show Good p e below _ (T316.setTop (mkF m 167 #[.val (.int p0), .val (.int p1), .val (.int p2), .val (.int p3), .val (.int (1 : Int32)), .val (.int (1 : Int32)), .val (.ref b193), .val (.ref b201), .val (.ref b213), .val (.ref b287), .val (.ref nr_308)] [.null]))
      refine Good.back (fun _ k => XS.ifnonnullNo X316.here hx rfl (hb hby at_167) rfl k) ?_
      show Good p e below _ (T316.setTop (mkF m 170 #[.val (.int p0), .val (.int p1), .val (.int p2), .val (.int p3), .val (.int (1 : Int32)), .val (.int (1 : Int32)), .val (.ref b193), .val (.ref b201), .val (.ref b213), .val (.ref b287), .val (.ref nr_308)] []))
      refine Good.back (fun _ k => XS.aload X316.here hx rfl (hb hby at_170) rfl rfl k) ?_
      show Good p e below _ (T316.setTop (mkF m 172 #[.val (.int p0), .val (.int p1), .val (.int p2), .val (.int p3), .val (.int (1 : Int32)), .val (.int (1 : Int32)), .val (.ref b193), .val (.ref b201), .val (.ref b213), .val (.ref b287), .val (.ref nr_308)] [(.ref nr_308)]))
      obtain ⟨cq317, kq317, q317a, q317b, q317c⟩ := isOf hZ220 eh316 o308_1
      obtain ⟨_, _, ⟨T317, L317, k317, n317⟩, -, X317, ⟨Lc317, hQ317, l317, y317, z317⟩, st317⟩ := X316.virtualBack hx (y := (⟨"com/example/orderd/orderd/provider/Notice", "refusal", "()Lcom/example/orderd/orderd/provider/Reply;"⟩ : MethodName)) (z := (⟨"com/example/orderd/orderd/provider/Notice", "refusal", "()Lcom/example/orderd/orderd/provider/Reply;"⟩ : MethodName)) hown220 (mvT hZ220 (hw _ (List.mem_of_getElem? (i := 136) rfl))) (mvT hZ220 (hw _ (List.mem_of_getElem? (i := 137) rfl))) (notFace_of_selects (args := #[]) (mvT hZ220 (hw _ (List.mem_of_getElem? (i := 139) rfl)))) (mvT hZ220 (hw _ (List.mem_of_getElem? (i := 139) rfl))) (mvT hZ220 (hw _ (List.mem_of_getElem? (i := 138) rfl))) (by decide) (backOf (W := 0) (rm22y l Z a0 hw [] nr_308 b213 T308.heap n0 Z309 o308_5) hZ220 (hw _ (List.mem_of_getElem? (i := 140) rfl)) (hw _ (List.mem_of_getElem? (i := 84) rfl)) (by decide) (by decide)) q317a q317c (g := (mkF m 172 #[.val (.int p0), .val (.int p1), .val (.int p2), .val (.int p3), .val (.int (1 : Int32)), .val (.int (1 : Int32)), .val (.ref b193), .val (.ref b201), .val (.ref b213), .val (.ref b287), .val (.ref nr_308)] [(.ref nr_308)])) rfl (by rw [hml]; rfl) (Steps.refl _) (argsL := []) (rest := []) (lenOf own_pd305 rfl) rfl (by show 2 * 0 + _ ≤ _; exact Nat.le_of_eq rfl) (hb hby at_172) (fun _ _ => ⟨rfl, eh316, (by decide : 11 + 0 ≤ _), (by decide : 70 + 0 ≤ _)⟩)
      dsimp only [Pt.U, Pt.locs, Pt.cells, Pt.slots] at X317 l317 y317 z317 st317 hQ317
      subst l317 y317 z317
      obtain ⟨rfl, N317q, eh317⟩ := hQ317
      have N317 := Fr.app N316 N317q
      refine Good.back (fun _ k => st317.trans k) ?_
      show Good p e below _ (T317.setTop (mkF m 175 #[.val (.int p0), .val (.int p1), .val (.int p2), .val (.int p3), .val (.int (1 : Int32)), .val (.int (1 : Int32)), .val (.ref b193), .val (.ref b201), .val (.ref b213), .val (.ref b287), .val (.ref nr_308)] [(.ref b213)]))
      refine Good.back (fun _ k => XS.aload X317.here hx rfl (hb hby at_175) rfl rfl k) ?_
      show Good p e below _ (T317.setTop (mkF m 177 #[.val (.int p0), .val (.int p1), .val (.int p2), .val (.int p3), .val (.int (1 : Int32)), .val (.int (1 : Int32)), .val (.ref b193), .val (.ref b201), .val (.ref b213), .val (.ref b287), .val (.ref nr_308)] [(.ref b213), (.ref b213)]))
      refine Good.back (fun _ k => Jvm.RoadKit.acmp (g := (mkF m 177 #[.val (.int p0), .val (.int p1), .val (.int p2), .val (.int p3), .val (.int (1 : Int32)), .val (.int (1 : Int32)), .val (.ref b193), .val (.ref b201), .val (.ref b213), .val (.ref b287), .val (.ref nr_308)] [(.ref b213), (.ref b213)])) X317 hx rfl rfl rfl (pc0 := 177) (pc' := 180) (same := true) rfl (hb hby at_177) rfl (decide_eq_true rfl) (by decide) (by decide) k) ?_
      show Good p e below _ (T317.setTop (mkF m 180 #[.val (.int p0), .val (.int p1), .val (.int p2), .val (.int p3), .val (.int (1 : Int32)), .val (.int (1 : Int32)), .val (.ref b193), .val (.ref b201), .val (.ref b213), .val (.ref b287), .val (.ref nr_308)] []))
      refine Good.back (fun _ k => XS.aload X317.here hx rfl (hb hby at_180) rfl rfl k) ?_
      show Good p e below _ (T317.setTop (mkF m 182 #[.val (.int p0), .val (.int p1), .val (.int p2), .val (.int p3), .val (.int (1 : Int32)), .val (.int (1 : Int32)), .val (.ref b193), .val (.ref b201), .val (.ref b213), .val (.ref b287), .val (.ref nr_308)] [(.ref nr_308)]))
      obtain ⟨cq318, kq318, q318a, q318b, q318c⟩ := isOf hZ220 eh317 o308_1
      obtain ⟨_, _, ⟨T318, L318, k318, n318⟩, -, X318, ⟨Lc318, hQ318, l318, y318, z318⟩, st318⟩ := X317.virtualBack hx (y := (⟨"com/example/orderd/orderd/provider/Notice", "rejection", "()Lcom/example/orderd/orderd/order/Rejection;"⟩ : MethodName)) (z := (⟨"com/example/orderd/orderd/provider/Notice", "rejection", "()Lcom/example/orderd/orderd/order/Rejection;"⟩ : MethodName)) hown220 (mvT hZ220 (hw _ (List.mem_of_getElem? (i := 141) rfl))) (mvT hZ220 (hw _ (List.mem_of_getElem? (i := 142) rfl))) (notFace_of_selects (args := #[]) (mvT hZ220 (hw _ (List.mem_of_getElem? (i := 144) rfl)))) (mvT hZ220 (hw _ (List.mem_of_getElem? (i := 144) rfl))) (mvT hZ220 (hw _ (List.mem_of_getElem? (i := 143) rfl))) (by decide) (backOf (W := 0) (rm23 l Z a0 hw [] nr_308  T308.heap n0 Z309 o308_6) hZ220 (hw _ (List.mem_of_getElem? (i := 145) rfl)) (hw _ (List.mem_of_getElem? (i := 84) rfl)) (by decide) (by decide)) q318a q318c (g := (mkF m 182 #[.val (.int p0), .val (.int p1), .val (.int p2), .val (.int p3), .val (.int (1 : Int32)), .val (.int (1 : Int32)), .val (.ref b193), .val (.ref b201), .val (.ref b213), .val (.ref b287), .val (.ref nr_308)] [(.ref nr_308)])) rfl (by rw [hml]; rfl) (Steps.refl _) (argsL := []) (rest := []) (lenOf own_pd306 rfl) rfl (by show 2 * 0 + _ ≤ _; exact Nat.le_of_eq rfl) (hb hby at_182) (fun _ _ => ⟨rfl, eh317, (by decide : 11 + 0 ≤ _), (by decide : 70 + 0 ≤ _)⟩)
      dsimp only [Pt.U, Pt.locs, Pt.cells, Pt.slots] at X318 l318 y318 z318 st318 hQ318
      subst l318 y318 z318
      obtain ⟨rfl, N318q, eh318⟩ := hQ318
      have N318 := Fr.app N317 N318q
      refine Good.back (fun _ k => st318.trans k) ?_
      show Good p e below _ (T318.setTop (mkF m 185 #[.val (.int p0), .val (.int p1), .val (.int p2), .val (.int p3), .val (.int (1 : Int32)), .val (.int (1 : Int32)), .val (.ref b193), .val (.ref b201), .val (.ref b213), .val (.ref b287), .val (.ref nr_308)] [.null]))
      refine Good.back (fun _ k => XS.ifnonnullNo X318.here hx rfl (hb hby at_185) rfl k) ?_
      show Good p e below _ (T318.setTop (mkF m 188 #[.val (.int p0), .val (.int p1), .val (.int p2), .val (.int p3), .val (.int (1 : Int32)), .val (.int (1 : Int32)), .val (.ref b193), .val (.ref b201), .val (.ref b213), .val (.ref b287), .val (.ref nr_308)] []))
      refine Good.back (fun _ k => XS.aload X318.here hx rfl (hb hby at_188) rfl rfl k) ?_
      show Good p e below _ (T318.setTop (mkF m 190 #[.val (.int p0), .val (.int p1), .val (.int p2), .val (.int p3), .val (.int (1 : Int32)), .val (.int (1 : Int32)), .val (.ref b193), .val (.ref b201), .val (.ref b213), .val (.ref b287), .val (.ref nr_308)] [(.ref nr_308)]))
      obtain ⟨cq319, kq319, q319a, q319b, q319c⟩ := isOf hZ220 eh318 o308_1
      obtain ⟨_, _, ⟨T319, L319, k319, n319⟩, -, X319, ⟨Lc319, hQ319, l319, y319, z319⟩, st319⟩ := X318.virtualBack hx (y := (⟨"com/example/orderd/orderd/provider/Notice", "reason", "()Ljava/lang/String;"⟩ : MethodName)) (z := (⟨"com/example/orderd/orderd/provider/Notice", "reason", "()Ljava/lang/String;"⟩ : MethodName)) hown220 (mvT hZ220 (hw _ (List.mem_of_getElem? (i := 146) rfl))) (mvT hZ220 (hw _ (List.mem_of_getElem? (i := 147) rfl))) (notFace_of_selects (args := #[]) (mvT hZ220 (hw _ (List.mem_of_getElem? (i := 149) rfl)))) (mvT hZ220 (hw _ (List.mem_of_getElem? (i := 149) rfl))) (mvT hZ220 (hw _ (List.mem_of_getElem? (i := 148) rfl))) (by decide) (backOf (W := 0) (rm24y l Z a0 hw [] nr_308 b287 T308.heap n0 Z309 o308_7) hZ220 (hw _ (List.mem_of_getElem? (i := 150) rfl)) (hw _ (List.mem_of_getElem? (i := 84) rfl)) (by decide) (by decide)) q319a q319c (g := (mkF m 190 #[.val (.int p0), .val (.int p1), .val (.int p2), .val (.int p3), .val (.int (1 : Int32)), .val (.int (1 : Int32)), .val (.ref b193), .val (.ref b201), .val (.ref b213), .val (.ref b287), .val (.ref nr_308)] [(.ref nr_308)])) rfl (by rw [hml]; rfl) (Steps.refl _) (argsL := []) (rest := []) (lenOf own_pd304 rfl) rfl (by show 2 * 0 + _ ≤ _; exact Nat.le_of_eq rfl) (hb hby at_190) (fun _ _ => ⟨rfl, eh318, (by decide : 11 + 0 ≤ _), (by decide : 70 + 0 ≤ _)⟩)
      dsimp only [Pt.U, Pt.locs, Pt.cells, Pt.slots] at X319 l319 y319 z319 st319 hQ319
      subst l319 y319 z319
      obtain ⟨rfl, N319q, eh319⟩ := hQ319
      have N319 := Fr.app N318 N319q
      refine Good.back (fun _ k => st319.trans k) ?_
      show Good p e below _ (T319.setTop (mkF m 193 #[.val (.int p0), .val (.int p1), .val (.int p2), .val (.int p3), .val (.int (1 : Int32)), .val (.int (1 : Int32)), .val (.ref b193), .val (.ref b201), .val (.ref b213), .val (.ref b287), .val (.ref nr_308)] [(.ref b287)]))
      refine Good.back (fun _ k => XS.aload X319.here hx rfl (hb hby at_193) rfl rfl k) ?_
      show Good p e below _ (T319.setTop (mkF m 195 #[.val (.int p0), .val (.int p1), .val (.int p2), .val (.int p3), .val (.int (1 : Int32)), .val (.int (1 : Int32)), .val (.ref b193), .val (.ref b201), .val (.ref b213), .val (.ref b287), .val (.ref nr_308)] [(.ref b287), (.ref b287)]))
      refine Good.back (fun _ k => Jvm.RoadKit.acmp (g := (mkF m 195 #[.val (.int p0), .val (.int p1), .val (.int p2), .val (.int p3), .val (.int (1 : Int32)), .val (.int (1 : Int32)), .val (.ref b193), .val (.ref b201), .val (.ref b213), .val (.ref b287), .val (.ref nr_308)] [(.ref b287), (.ref b287)])) X319 hx rfl rfl rfl (pc0 := 195) (pc' := 198) (same := true) rfl (hb hby at_195) rfl (decide_eq_true rfl) (by decide) (by decide) k) ?_
      show Good p e below _ (T319.setTop (mkF m 198 #[.val (.int p0), .val (.int p1), .val (.int p2), .val (.int p3), .val (.int (1 : Int32)), .val (.int (1 : Int32)), .val (.ref b193), .val (.ref b201), .val (.ref b213), .val (.ref b287), .val (.ref nr_308)] []))
      refine Good.back (fun _ k => XS.iconst X319.here hx rfl (hb hby at_198) k) ?_
      show Good p e below _ (T319.setTop (mkF m 199 #[.val (.int p0), .val (.int p1), .val (.int p2), .val (.int p3), .val (.int (1 : Int32)), .val (.int (1 : Int32)), .val (.ref b193), .val (.ref b201), .val (.ref b213), .val (.ref b287), .val (.ref nr_308)] [(.int (1 : Int32))]))
      refine Good.back (fun _ k => XS.goto X319.here hx rfl (pc0 := 199) (pc' := 203) rfl (hb hby at_199) (by decide) (by decide) k) ?_
      show Good p e below _ (T319.setTop (mkF m 203 #[.val (.int p0), .val (.int p1), .val (.int p2), .val (.int p3), .val (.int (1 : Int32)), .val (.int (1 : Int32)), .val (.ref b193), .val (.ref b201), .val (.ref b213), .val (.ref b287), .val (.ref nr_308)] [(.int (1 : Int32))]))
      obtain ⟨fs320, hr320, hrun320, hended320, hRE320⟩ := leaveW X319 hS220 (by rw [eh319]; exact hk310) (v := some (.int (1 : Int32))) (fun h => by rw [Bd.returns] at h; cases h)
      refine Good.done (retN X319 hx (t := .boolean) Bd.returns (by simp) (hb hby at_203) hr320) hrun320 hended320 ⟨_, _, rfl, ?_, hRE320.1, hRE320.2.1, hRE320.2.2.1, hRE320.2.2.2.mono (by decide) (by decide)⟩
      show Q0 Z p0 p1 p2 p3 u8 cs h0 n0 _ T319.heap _
      rw [eh319]
      exact ⟨rfl, N319⟩
set_option maxRecDepth 65536 in
set_option maxHeartbeats 40000000 in
theorem comes_1 {Post : Tables → Env → Array Value → State → Outcome → State → Prop} (hpost : ∀ tb e args s v u, (limb_1_1.after args s (.returned v) u = true ∧ limb_1_2.after args s (.returned v) u = true ∧ True) → ReturnedEndW s (.returned v) u (Jvm.fieldLocs frame_1_writes args s ++ Jvm.arrayLocs frame_1_arrays args s ++ Jvm.staticLocs frame_1_statics s) 32 1152 → Post tb e args s (.returned v) u) :
    ArmFor flags0 classFile x code maxLocals ret World_1 tables_1 room_1 Calls_1 rest_1 Pre_1 Post := by
  intro l hfl _ _ p e ha hc hk s m args below hf hA hF happ hP
  obtain ⟨hcalls, hrest, hpre⟩ := hP
  obtain ⟨-, -, -, hnamed, -, -, -, hat⟩ := (Spec.applies_iff hf).mp happ
  obtain ⟨hg, hn⟩ := and_e (Cond.before_iff.mp (show (Jvm.Cond.and given_1 narrow_1).before args s = true from hpre))
  obtain ⟨g1, g2⟩ := and_e hg
  obtain ⟨g3, g4⟩ := and_e g2
  obtain ⟨g5, g6⟩ := and_e g4
  obtain ⟨g7, g8⟩ := and_e g6
  obtain ⟨w0, w1, w2, w3, rfl⟩ : ∃ w0 w1 w2 w3 : Value, args = #[w0, w1, w2, w3] := by
    have hs : args.size = 4 := by simpa [Cond.value, given_1] using g1
    obtain ⟨L⟩ := args
    match L, hs with
    | [w0, w1, w2, w3], _ => exact ⟨w0, w1, w2, w3, rfl⟩
  have hw := fun d (hd : d ∈ tables_1) => atoms_spec (ws := Jvm.Cond.code x code maxLocals ret :: tables_1) hat d (List.mem_cons_of_mem _ hd)
  have hfit : Fit s := fun {y c} hc i hi => by
    obtain ⟨ha, rfl⟩ := Array.getElem?_eq_some_iff.mp hc
    have q := List.all_eq_true.mp ((Array.all_eq_true_iff_forall_mem.mp hF) _ (Array.getElem_mem ha)) i (List.mem_range.mpr hi)
    simpa [Array.getElem?_eq_getElem hi] using q
  obtain ⟨hsets, hown0⟩ := atoms_of _ (rest_1_c_eq ▸ (show rest_1_c.before _ s = true from hrest))
  have hr0 := Cond.before_iff.mp hown0
  obtain ⟨i0, ei0⟩ := is_v g3
  obtain rfl : w0 = (.int i0) := Option.some.inj ei0
  obtain ⟨i1, ei1⟩ := is_v g5
  obtain rfl : w1 = (.int i1) := Option.some.inj ei1
  obtain ⟨i2, ei2⟩ := is_v g7
  obtain rfl : w2 = (.int i2) := Option.some.inj ei2
  obtain ⟨i3, ei3⟩ := is_v g8
  obtain rfl : w3 = (.int i3) := Option.some.inj ei3
  have qcs1 := Cond.before_iff.mp (hsets _ (List.mem_of_getElem? (i := 1) rfl))
  obtain ⟨cs, ecs⟩ := is_v qcs1
  have qcs2 := not_v (Cond.before_iff.mp (hsets _ (List.mem_of_getElem? (i := 2) rfl)))
  have hcs : ¬ (cs = (0 : Int32)) := own_neI qcs2 ecs
  have S_cs : Sta s s.heap "java/lang/String" "COMPACT_STRINGS" "Z" (.int cs) := Sta.start ecs (Or.inl (hsets _ (List.mem_of_getElem? (i := 0) rfl)))
  obtain ⟨u8, eu8⟩ := exa_v (Cond.before_iff.mp (hsets _ (List.mem_of_getElem? (i := 14) rfl)))
  have S_u8 : Sta s s.heap "java/nio/charset/StandardCharsets" "UTF_8" "Ljava/nio/charset/Charset;" (.ref u8) := Sta.start eu8 (Or.inl (hsets _ (List.mem_of_getElem? (i := 10) rfl)))
  obtain ⟨u8', eu8'⟩ := exa_v (Cond.before_iff.mp (hsets _ (List.mem_of_getElem? (i := 17) rfl)))
  obtain rfl : u8' = u8 := Value.ref.inj (Option.some.inj ((own_eqV (Cond.before_iff.mp (hsets _ (List.mem_of_getElem? (i := 13) rfl))) eu8').symm.trans eu8))
  have S_in : Sta s s.heap "sun/nio/cs/UTF_8" "INSTANCE" "Lsun/nio/cs/UTF_8;" (.ref u8') := Sta.start eu8' (Or.inl (hsets _ (List.mem_of_getElem? (i := 12) rfl)))
  obtain ⟨n, o, h1, h2, h3, _, L, rfl, ⟨rfl, N⟩, hq⟩ := rm0 l s _ hw tables_1 i0 i1 i2 i3 u8' cs s.heap s.heap.size (Nat.le_refl _) S_u8 S_in S_cs hcs p e ha hc hk s m _ below hf ((Spec.applies_iff_loose hf).mp happ).1 ⟨rfl, State.Warmed39.refl s, rfl⟩ trivial
  refine ⟨n, _, h1, h2, h3, hpost _ _ _ _ _ _ ⟨Cond.after_iff.mpr rfl, Cond.after_iff.mpr (eq_i res_at (Term.int_eval (1)) rfl), trivial⟩ ⟨hq.1, hq.2.1, hq.2.2.1, (hq.2.2.2.sift fun y hy => Or.inr (N y hy)).mono (by decide) (by decide)⟩⟩
theorem main_1_1 : Claimed_1_1 := comes_1 fun _ _ _ _ _ _ h hF => ⟨h.1, hF⟩
theorem main_1_2 : Claimed_1_2 := comes_1 fun _ _ _ _ _ _ h hF => ⟨h.2.1, hF⟩
end Jvm.Pilot.@@N@@
namespace Jvm.Pilot.@@N@@
open Jvm Jvm.ClassFile Sem Op Lib Jvm.Free Jvm.Stand Jvm.Pilot.@@N@@.Jvm.D
/-! MADE BY PROGRAM (witnessworld.py) out of the Statement's table words and the real class files: 27 classes; the members and pool entries that the words name. The judged class is class 1, her method 1. -/
namespace start1
open Jvm.ClassFile
def u (s : String) : CpInfo := .utf8 (stringToUtf16 s)
/-- a pool by its gaps: so many unusable entries, then the entry; so many at the end -/
def gap : Nat → List CpInfo → List CpInfo
  | 0, r => r
  | n + 1, r => .unusable :: gap n r
def poolList (es : List (Nat × CpInfo)) (last : Nat) : List CpInfo := es.foldr (fun e r => gap e.1 (e.2 :: r)) (gap last [])
def pool (es : List (Nat × CpInfo)) (last : Nat) : Array CpInfo := ⟨poolList es last⟩
def fileOf (pool : Array CpInfo) (this : Nat) (attrs : Array Attribute := #[]) (ms : Array MethodInfo := #[]) (fl : Nat := 33) (sup : Nat := 0) (ifs : Array Nat := #[]) (fds : Array FieldInfo := #[]) : ClassFile where
  minorVersion := 0
  majorVersion := 65
  constantPool := pool
  accessFlags := fl
  thisClass := this
  superClass := sup
  interfaces := ifs
  fields := fds
  methods := ms
  attributes := attrs
def plain (name : String) (sup : Option ClassId) : Class where
  name := name
  kind := .ordinary
  loader := none
  accessFlags := 33
  super := sup
  interfaces := #[]
  cf := none
  fields := #[]
  methods := #[]
  instanceTypes := #[]
  staticTypes := #[]
  resolved := #[]
  callSites := []
  init := .initialized
  statics := none
  mirror := none

def pool0 : Array CpInfo := pool [(5, u "<init>"), (0, u "()V"), (1, .class_ 10), (1, u "java/lang/Object"), (85, u "clone"), (0, u "()Ljava/lang/Object;")] 26

def k0c0 : Code := { maxStack := 0, maxLocals := 1, code := object_method_1_code, exceptionTable := #[], attributes := #[] }
def k0m0 : Method := { name := "<init>", desc := "()V", sig := { parameters := [], returnType := none }, accessFlags := 1, code := some k0c0 }
def k0m1 : Method := { name := "clone", desc := "()Ljava/lang/Object;", sig := { parameters := [], returnType := some (.object "java/lang/Object") }, accessFlags := 260, code := none }
/-- java/lang/Object -/
def k0 : Class := { plain "java/lang/Object" none with
  accessFlags := 33
  interfaces := #[]
  cf := some (fileOf pool0 8 #[] #[{ accessFlags := 1, nameIndex := 5, descriptorIndex := 6, attributes := #[] }, { accessFlags := 260, nameIndex := 96, descriptorIndex := 97, attributes := #[] }] 33 0 #[] #[])
  fields := #[]
  methods := #[k0m0, k0m1]
  instanceTypes := #[]
  staticTypes := #[]
  resolved := Array.replicate 124 none
  statics := none }

def pool1 : Array CpInfo := pool [(2, .class_ 4), (1, u "java/lang/Object"), (0, u "<init>"), (0, u "()V"), (0, .class_ 8), (0, u "com/example/orderd/orderd/provider/Reply"), (0, .string 10), (0, u "text/plain"), (0, .class_ 12), (0, u "java/lang/String"), (0, .methodref 11 14), (0, .nameAndType 5 15), (0, u "([C)V"), (0, .methodref 7 17), (0, .nameAndType 5 18), (0, u "(ILjava/lang/String;Ljava/lang/String;)V"), (0, .methodref 20 21), (0, .class_ 22), (0, .nameAndType 23 24), (0, u "com/example/orderd/orderd/provider/Notice"), (0, u "badRequest"), (0, u "(Lcom/example/orderd/orderd/provider/Reply;Ljava/lang/String;)Lcom/example/orderd/orderd/provider/Notice;"), (0, .methodref 20 26), (0, .nameAndType 27 28), (0, u "isRefused"), (0, u "()Z"), (0, .methodref 20 30), (0, .nameAndType 31 28), (0, u "isBadRequest"), (0, .methodref 20 33), (0, .nameAndType 34 28), (0, u "isRejected"), (0, .methodref 20 36), (0, .nameAndType 37 28), (0, u "isRefund"), (0, .methodref 20 39), (0, .nameAndType 40 41), (0, u "order"), (0, u "()Lcom/example/orderd/orderd/order/Order;"), (0, .methodref 20 43), (0, .nameAndType 44 45), (0, u "sign"), (0, u "()Ljava/lang/String;"), (0, .methodref 20 47), (0, .nameAndType 48 49), (0, u "refusal"), (0, u "()Lcom/example/orderd/orderd/provider/Reply;"), (0, .methodref 20 51), (0, .nameAndType 52 53), (0, u "rejection"), (0, u "()Lcom/example/orderd/orderd/order/Rejection;"), (0, .methodref 20 55), (0, .nameAndType 56 45), (0, u "reason"), (0, .class_ 58), (0, u "com/example/orderd/orderd/provider/NoticeBadRequestPinLaw"), (2, u "law"), (0, u "(IIII)Z")] 5

def k1m0 : Method := { name := "<init>", desc := "()V", sig := { parameters := [], returnType := none }, accessFlags := 1, code := none }
def k1c1 : Code := { maxStack := 7, maxLocals := 11, code := code, exceptionTable := #[], attributes := #[] }
def k1m1 : Method := { name := "law", desc := "(IIII)Z", sig := { parameters := [.int, .int, .int, .int], returnType := some .boolean }, accessFlags := 9, code := some k1c1 }
/-- com/example/orderd/orderd/provider/NoticeBadRequestPinLaw -/
def k1 : Class := { plain "com/example/orderd/orderd/provider/NoticeBadRequestPinLaw" (some 0) with
  accessFlags := 49
  interfaces := #[]
  cf := some (fileOf pool1 57 #[] #[{ accessFlags := 1, nameIndex := 5, descriptorIndex := 6, attributes := #[] }, { accessFlags := 9, nameIndex := 61, descriptorIndex := 62, attributes := #[] }] 49 2 #[] #[])
  fields := #[]
  methods := #[k1m0, k1m1]
  instanceTypes := #[]
  staticTypes := #[]
  resolved := Array.replicate 68 none
  statics := none }

def pool2 : Array CpInfo := pool [(1, .methodref 2 3), (0, .class_ 4), (0, .nameAndType 5 6), (0, u "java/lang/Object"), (0, u "<init>"), (0, u "()V"), (0, .fieldref 8 9), (0, .class_ 10), (0, .nameAndType 11 12), (0, u "com/example/orderd/orderd/provider/Reply"), (0, u "status"), (0, u "I"), (0, .fieldref 8 14), (0, .nameAndType 15 16), (0, u "contentType"), (0, u "Ljava/lang/String;"), (0, .fieldref 18 19), (0, .class_ 20), (0, .nameAndType 21 22), (0, u "java/nio/charset/StandardCharsets"), (0, u "UTF_8"), (0, u "Ljava/nio/charset/Charset;"), (0, .methodref 24 25), (0, .class_ 26), (0, .nameAndType 27 28), (0, u "java/lang/String"), (0, u "getBytes"), (0, u "(Ljava/nio/charset/Charset;)[B"), (0, .fieldref 8 30), (0, .nameAndType 31 32), (0, u "body"), (0, u "[B"), (4, u "(ILjava/lang/String;Ljava/lang/String;)V"), (5, u "TEXT")] 10

def k2c0 : Code := { maxStack := 3, maxLocals := 4, code := prog_29_method_1_code, exceptionTable := #[], attributes := #[] }
def k2m0 : Method := { name := "<init>", desc := "(ILjava/lang/String;Ljava/lang/String;)V", sig := { parameters := [.int, (.object "java/lang/String"), (.object "java/lang/String")], returnType := none }, accessFlags := 1, code := some k2c0 }
/-- com/example/orderd/orderd/provider/Reply -/
def k2 : Class := { plain "com/example/orderd/orderd/provider/Reply" (some 0) with
  accessFlags := 33
  interfaces := #[]
  cf := some (fileOf pool2 8 #[] #[{ accessFlags := 1, nameIndex := 5, descriptorIndex := 37, attributes := #[] }] 33 2 #[] #[{ accessFlags := 26, nameIndex := 43, descriptorIndex := 16, attributes := #[] }, { accessFlags := 18, nameIndex := 11, descriptorIndex := 12, attributes := #[] }, { accessFlags := 18, nameIndex := 15, descriptorIndex := 16, attributes := #[] }, { accessFlags := 18, nameIndex := 31, descriptorIndex := 32, attributes := #[] }])
  fields := #[{ name := "TEXT", type := (.object "java/lang/String"), accessFlags := 26, slot := 0, constantValue := 0 }, { name := "status", type := .int, accessFlags := 18, slot := 0, constantValue := 0 }, { name := "contentType", type := (.object "java/lang/String"), accessFlags := 18, slot := 1, constantValue := 0 }, { name := "body", type := (.array .byte), accessFlags := 18, slot := 2, constantValue := 0 }]
  methods := #[k2m0]
  instanceTypes := #[.int, (.object "java/lang/String"), (.array .byte)]
  staticTypes := #[(.object "java/lang/String")]
  resolved := Array.replicate 54 none
  statics := none }

def pool3 : Array CpInfo := pool [(1, .class_ 2), (0, u "java/io/Serializable"), (0, .class_ 4), (0, u "java/lang/Object")] 2

/-- java/io/Serializable -/
def k3 : Class := { plain "java/io/Serializable" (some 0) with
  accessFlags := 1537
  interfaces := #[]
  cf := some (fileOf pool3 1 #[] #[] 1537 3 #[] #[])
  fields := #[]
  methods := #[]
  instanceTypes := #[]
  staticTypes := #[]
  resolved := Array.replicate 7 none
  statics := none }

def pool4 : Array CpInfo := pool [(1, .class_ 2), (0, u "java/lang/Comparable"), (0, .class_ 4), (0, u "java/lang/Object")] 7

/-- java/lang/Comparable -/
def k4 : Class := { plain "java/lang/Comparable" (some 0) with
  accessFlags := 1537
  interfaces := #[]
  cf := some (fileOf pool4 1 #[] #[] 1537 3 #[] #[])
  fields := #[]
  methods := #[]
  instanceTypes := #[]
  staticTypes := #[]
  resolved := Array.replicate 12 none
  statics := none }

def pool5 : Array CpInfo := pool [(2, .class_ 4), (1, u "java/lang/CharSequence"), (42, .class_ 48), (0, u "java/lang/CharSequence$1CodePointIterator"), (10, .class_ 60), (0, u "java/lang/CharSequence$1CharIterator"), (5, .class_ 67), (0, u "java/lang/Object")] 63

/-- java/lang/CharSequence -/
def k5 : Class := { plain "java/lang/CharSequence" (some 0) with
  accessFlags := 1537
  interfaces := #[]
  cf := some (fileOf pool5 2 #[.nestMembers #[47, 59]] #[] 1537 66 #[] #[])
  fields := #[]
  methods := #[]
  instanceTypes := #[]
  staticTypes := #[]
  resolved := Array.replicate 131 none
  statics := none }

def pool6 : Array CpInfo := pool [(1, .class_ 2), (0, u "java/lang/constant/Constable"), (0, .class_ 4), (0, u "java/lang/Object")] 6

/-- java/lang/constant/Constable -/
def k6 : Class := { plain "java/lang/constant/Constable" (some 0) with
  accessFlags := 1537
  interfaces := #[]
  cf := some (fileOf pool6 1 #[] #[] 1537 3 #[] #[])
  fields := #[]
  methods := #[]
  instanceTypes := #[]
  staticTypes := #[]
  resolved := Array.replicate 11 none
  statics := none }

def pool7 : Array CpInfo := pool [(1, .class_ 2), (0, u "java/lang/constant/ConstantDesc"), (0, .class_ 4), (0, u "java/lang/Object")] 32

/-- java/lang/constant/ConstantDesc -/
def k7 : Class := { plain "java/lang/constant/ConstantDesc" (some 0) with
  accessFlags := 1537
  interfaces := #[]
  cf := some (fileOf pool7 1 #[] #[] 1537 3 #[] #[])
  fields := #[]
  methods := #[]
  instanceTypes := #[]
  staticTypes := #[]
  resolved := Array.replicate 37 none
  statics := none }

def pool8 : Array CpInfo := pool [(1, .methodref 2 3), (0, .class_ 4), (0, .nameAndType 5 6), (0, u "java/lang/Object"), (0, u "<init>"), (0, u "()V"), (2, .fieldref 10 11), (0, .class_ 12), (0, .nameAndType 13 14), (0, u "java/lang/String"), (0, u "value"), (0, u "[B"), (0, .fieldref 10 16), (0, .nameAndType 17 18), (0, u "coder"), (0, u "B"), (2, u "hash"), (0, u "I"), (2, u "hashIsZero"), (0, u "Z"), (0, .methodref 10 28), (0, .nameAndType 5 29), (0, u "([CIILjava/lang/Void;)V"), (8, .fieldref 10 39), (0, .nameAndType 40 26), (0, u "COMPACT_STRINGS"), (1, .class_ 44), (1, u "java/lang/StringUTF16"), (0, u "compress"), (1, .methodref 42 48), (0, .nameAndType 49 50), (0, u "coderFromArrayLen"), (0, u "([BI)B"), (9, .methodref 42 61), (0, .nameAndType 62 63), (0, u "newBytesFor"), (0, u "(I)[B"), (22, .fieldref 87 88), (0, .class_ 89), (0, .nameAndType 90 91), (0, u "sun/nio/cs/UTF_8"), (0, u "INSTANCE"), (0, u "Lsun/nio/cs/UTF_8;"), (1, .class_ 95), (1, u "java/lang/StringCoding"), (32, .methodref 93 129), (0, .nameAndType 130 131), (0, u "hasNegatives"), (0, u "([BII)Z"), (45, .methodref 42 178), (0, .nameAndType 45 179), (0, u "([CII)[B"), (72, .methodref 10 253), (0, .nameAndType 254 255), (0, u "encodeUTF8"), (0, u "(B[BZ)[B"), (23, .methodref 280 281), (0, .class_ 14), (0, .nameAndType 282 283), (0, u "clone"), (0, u "()Ljava/lang/Object;"), (33, u "encode"), (17, .methodref 10 336), (0, .nameAndType 17 337), (0, u "()B"), (194, u "getBytes"), (2, .methodref 10 536), (0, .nameAndType 317 537), (0, u "(Ljava/nio/charset/Charset;B[B)[B"), (37, .class_ 576), (0, u "java/lang/CharSequence"), (22, u "CASE_INSENSITIVE_ORDER"), (0, u "Ljava/util/Comparator;"), (409, u "([C)V"), (90, u "serialPersistentFields"), (0, u "[Ljava/io/ObjectStreamField;"), (0, .class_ 1104), (0, u "java/lang/String$CaseInsensitiveComparator"), (1, .class_ 1107), (0, u "java/io/Serializable"), (0, .class_ 1109), (0, u "java/lang/Comparable"), (0, .class_ 1111), (0, u "java/lang/constant/Constable"), (0, .class_ 1113), (0, u "java/lang/constant/ConstantDesc"), (2, u "serialVersionUID"), (0, u "J"), (3, u "REPL"), (0, u "C"), (2, u "LATIN1"), (1, u "UTF16"), (117, u "(Ljava/nio/charset/Charset;)[B")] 205

def k8m0 : Method := { name := "<init>", desc := "()V", sig := { parameters := [], returnType := none }, accessFlags := 1, code := none }
def k8c1 : Code := { maxStack := 5, maxLocals := 2, code := jdk_42_method_3_code, exceptionTable := #[], attributes := #[] }
def k8m1 : Method := { name := "<init>", desc := "([C)V", sig := { parameters := [(.array .char)], returnType := none }, accessFlags := 1, code := some k8c1 }
def k8c2 : Code := { maxStack := 4, maxLocals := 3, code := jdk_42_method_18_code, exceptionTable := #[], attributes := #[] }
def k8m2 : Method := { name := "encode", desc := "(Ljava/nio/charset/Charset;B[B)[B", sig := { parameters := [(.object "java/nio/charset/Charset"), .byte, (.array .byte)], returnType := some (.array .byte) }, accessFlags := 10, code := some k8c2 }
def k8c3 : Code := { maxStack := 5, maxLocals := 9, code := jdk_42_method_46_code, exceptionTable := #[], attributes := #[] }
def k8m3 : Method := { name := "encodeUTF8", desc := "(B[BZ)[B", sig := { parameters := [.byte, (.array .byte), .boolean], returnType := some (.array .byte) }, accessFlags := 10, code := some k8c3 }
def k8c4 : Code := { maxStack := 3, maxLocals := 2, code := jdk_42_method_64_code, exceptionTable := #[], attributes := #[] }
def k8m4 : Method := { name := "getBytes", desc := "(Ljava/nio/charset/Charset;)[B", sig := { parameters := [(.object "java/nio/charset/Charset")], returnType := some (.array .byte) }, accessFlags := 1, code := some k8c4 }
def k8c5 : Code := { maxStack := 4, maxLocals := 6, code := jdk_42_method_149_code, exceptionTable := #[], attributes := #[] }
def k8m5 : Method := { name := "<init>", desc := "([CIILjava/lang/Void;)V", sig := { parameters := [(.array .char), .int, .int, (.object "java/lang/Void")], returnType := none }, accessFlags := 2, code := some k8c5 }
def k8c6 : Code := { maxStack := 1, maxLocals := 1, code := jdk_42_method_152_code, exceptionTable := #[], attributes := #[] }
def k8m6 : Method := { name := "coder", desc := "()B", sig := { parameters := [], returnType := some .byte }, accessFlags := 0, code := some k8c6 }
/-- java/lang/String -/
def k8 : Class := { plain "java/lang/String" (some 0) with
  accessFlags := 49
  interfaces := #[3, 4, 5, 6, 7]
  cf := some (fileOf pool8 10 #[.nestMembers #[1103]] #[{ accessFlags := 1, nameIndex := 5, descriptorIndex := 6, attributes := #[] }, { accessFlags := 1, nameIndex := 5, descriptorIndex := 1010, attributes := #[] }, { accessFlags := 10, nameIndex := 317, descriptorIndex := 537, attributes := #[] }, { accessFlags := 10, nameIndex := 254, descriptorIndex := 255, attributes := #[] }, { accessFlags := 1, nameIndex := 532, descriptorIndex := 1245, attributes := #[] }, { accessFlags := 2, nameIndex := 5, descriptorIndex := 29, attributes := #[] }, { accessFlags := 0, nameIndex := 17, descriptorIndex := 337, attributes := #[] }] 49 2 #[1106, 1108, 575, 1110, 1112] #[{ accessFlags := 18, nameIndex := 13, descriptorIndex := 14, attributes := #[] }, { accessFlags := 18, nameIndex := 17, descriptorIndex := 18, attributes := #[] }, { accessFlags := 2, nameIndex := 21, descriptorIndex := 22, attributes := #[] }, { accessFlags := 2, nameIndex := 25, descriptorIndex := 26, attributes := #[] }, { accessFlags := 26, nameIndex := 1116, descriptorIndex := 1117, attributes := #[] }, { accessFlags := 24, nameIndex := 40, descriptorIndex := 26, attributes := #[] }, { accessFlags := 26, nameIndex := 1101, descriptorIndex := 1102, attributes := #[] }, { accessFlags := 26, nameIndex := 1121, descriptorIndex := 1122, attributes := #[] }, { accessFlags := 25, nameIndex := 599, descriptorIndex := 600, attributes := #[] }, { accessFlags := 24, nameIndex := 1125, descriptorIndex := 18, attributes := #[] }, { accessFlags := 24, nameIndex := 1127, descriptorIndex := 18, attributes := #[] }])
  fields := #[{ name := "value", type := (.array .byte), accessFlags := 18, slot := 0, constantValue := 0 }, { name := "coder", type := .byte, accessFlags := 18, slot := 1, constantValue := 0 }, { name := "hash", type := .int, accessFlags := 2, slot := 2, constantValue := 0 }, { name := "hashIsZero", type := .boolean, accessFlags := 2, slot := 3, constantValue := 0 }, { name := "serialVersionUID", type := .long, accessFlags := 26, slot := 0, constantValue := 0 }, { name := "COMPACT_STRINGS", type := .boolean, accessFlags := 24, slot := 1, constantValue := 0 }, { name := "serialPersistentFields", type := (.array (.object "java/io/ObjectStreamField")), accessFlags := 26, slot := 2, constantValue := 0 }, { name := "REPL", type := .char, accessFlags := 26, slot := 3, constantValue := 0 }, { name := "CASE_INSENSITIVE_ORDER", type := (.object "java/util/Comparator"), accessFlags := 25, slot := 4, constantValue := 0 }, { name := "LATIN1", type := .byte, accessFlags := 24, slot := 5, constantValue := 0 }, { name := "UTF16", type := .byte, accessFlags := 24, slot := 6, constantValue := 0 }]
  methods := #[k8m0, k8m1, k8m2, k8m3, k8m4, k8m5, k8m6]
  instanceTypes := #[(.array .byte), .byte, .int, .boolean]
  staticTypes := #[.long, .boolean, (.array (.object "java/io/ObjectStreamField")), .char, (.object "java/util/Comparator"), .byte, .byte]
  resolved := Array.replicate 1451 none
  statics := some 0 }

def pool9 : Array CpInfo := pool [(6, .class_ 8), (1, u "java/lang/Object"), (0, u "<init>"), (0, u "()V"), (0, .methodref 12 13), (0, .class_ 14), (0, .nameAndType 15 16), (0, u "java/lang/StringUTF16"), (0, u "newBytesLength"), (0, u "(I)I"), (3, .integer 1073741823), (25, u "$assertionsDisabled"), (0, u "Z"), (13, u "HI_BYTE_SHIFT"), (0, u "I"), (2, u "LO_BYTE_SHIFT"), (43, u "newBytesFor"), (0, u "(I)[B"), (4, .methodref 12 116), (0, .nameAndType 117 118), (0, u "compress"), (0, u "([CI[BII)I"), (3, u "([CII)[B"), (138, u "coderFromArrayLen"), (0, u "([BI)B"), (106, .class_ 371), (1, u "java/lang/StringUTF16$LinesSpliterator"), (58, u "MAX_LENGTH"), (196, .class_ 628), (0, u "java/lang/StringUTF16$CodePointsSpliterator"), (0, .class_ 630), (0, u "java/lang/StringUTF16$CharsSpliterator")] 4

def k9m0 : Method := { name := "<init>", desc := "()V", sig := { parameters := [], returnType := none }, accessFlags := 0, code := none }
def k9c1 : Code := { maxStack := 1, maxLocals := 1, code := jdk_52_method_2_code, exceptionTable := #[], attributes := #[] }
def k9m1 : Method := { name := "newBytesFor", desc := "(I)[B", sig := { parameters := [.int], returnType := some (.array .byte) }, accessFlags := 9, code := some k9c1 }
def k9c2 : Code := { maxStack := 4, maxLocals := 1, code := jdk_52_method_3_code, exceptionTable := #[], attributes := #[] }
def k9m2 : Method := { name := "newBytesLength", desc := "(I)I", sig := { parameters := [.int], returnType := some .int }, accessFlags := 9, code := some k9c2 }
def k9c3 : Code := { maxStack := 2, maxLocals := 2, code := jdk_52_method_15_code, exceptionTable := #[], attributes := #[] }
def k9m3 : Method := { name := "coderFromArrayLen", desc := "([BI)B", sig := { parameters := [(.array .byte), .int], returnType := some .byte }, accessFlags := 8, code := some k9c3 }
def k9c4 : Code := { maxStack := 5, maxLocals := 6, code := jdk_52_method_16_code, exceptionTable := #[], attributes := #[] }
def k9m4 : Method := { name := "compress", desc := "([CII)[B", sig := { parameters := [(.array .char), .int, .int], returnType := some (.array .byte) }, accessFlags := 9, code := some k9c4 }
def k9c5 : Code := { maxStack := 3, maxLocals := 7, code := jdk_52_method_21_code, exceptionTable := #[], attributes := #[] }
def k9m5 : Method := { name := "compress", desc := "([CI[BII)I", sig := { parameters := [(.array .char), .int, (.array .byte), .int, .int], returnType := some .int }, accessFlags := 9, code := some k9c5 }
/-- java/lang/StringUTF16 -/
def k9 : Class := { plain "java/lang/StringUTF16" (some 0) with
  accessFlags := 48
  interfaces := #[]
  cf := some (fileOf pool9 12 #[.nestMembers #[627, 629, 369]] #[{ accessFlags := 0, nameIndex := 9, descriptorIndex := 10, attributes := #[] }, { accessFlags := 9, nameIndex := 109, descriptorIndex := 110, attributes := #[] }, { accessFlags := 9, nameIndex := 15, descriptorIndex := 16, attributes := #[] }, { accessFlags := 8, nameIndex := 261, descriptorIndex := 262, attributes := #[] }, { accessFlags := 9, nameIndex := 117, descriptorIndex := 122, attributes := #[] }, { accessFlags := 9, nameIndex := 117, descriptorIndex := 118, attributes := #[] }] 48 6 #[] #[{ accessFlags := 26, nameIndex := 61, descriptorIndex := 62, attributes := #[] }, { accessFlags := 26, nameIndex := 65, descriptorIndex := 62, attributes := #[] }, { accessFlags := 24, nameIndex := 430, descriptorIndex := 62, attributes := #[] }, { accessFlags := 4120, nameIndex := 46, descriptorIndex := 47, attributes := #[] }])
  fields := #[{ name := "HI_BYTE_SHIFT", type := .int, accessFlags := 26, slot := 0, constantValue := 0 }, { name := "LO_BYTE_SHIFT", type := .int, accessFlags := 26, slot := 1, constantValue := 0 }, { name := "MAX_LENGTH", type := .int, accessFlags := 24, slot := 2, constantValue := 0 }, { name := "$assertionsDisabled", type := .boolean, accessFlags := 4120, slot := 3, constantValue := 0 }]
  methods := #[k9m0, k9m1, k9m2, k9m3, k9m4, k9m5]
  instanceTypes := #[]
  staticTypes := #[.int, .int, .int, .boolean]
  resolved := Array.replicate 635 none
  statics := none }

def pool10 : Array CpInfo := pool [(2, .class_ 4), (1, u "java/lang/Object"), (0, u "<init>"), (0, u "()V"), (14, .class_ 23), (1, u "java/nio/charset/StandardCharsets"), (0, u "US_ASCII"), (0, u "Ljava/nio/charset/Charset;"), (7, u "ISO_8859_1"), (7, u "UTF_8"), (5, u "UTF_16BE"), (5, u "UTF_16LE"), (5, u "UTF_16")] 8

def k10m0 : Method := { name := "<init>", desc := "()V", sig := { parameters := [], returnType := none }, accessFlags := 2, code := none }
/-- java/nio/charset/StandardCharsets -/
def k10 : Class := { plain "java/nio/charset/StandardCharsets" (some 0) with
  accessFlags := 49
  interfaces := #[]
  cf := some (fileOf pool10 21 #[] #[{ accessFlags := 2, nameIndex := 5, descriptorIndex := 6, attributes := #[] }] 49 2 #[] #[{ accessFlags := 25, nameIndex := 24, descriptorIndex := 25, attributes := #[] }, { accessFlags := 25, nameIndex := 33, descriptorIndex := 25, attributes := #[] }, { accessFlags := 25, nameIndex := 41, descriptorIndex := 25, attributes := #[] }, { accessFlags := 25, nameIndex := 47, descriptorIndex := 25, attributes := #[] }, { accessFlags := 25, nameIndex := 53, descriptorIndex := 25, attributes := #[] }, { accessFlags := 25, nameIndex := 59, descriptorIndex := 25, attributes := #[] }])
  fields := #[{ name := "US_ASCII", type := (.object "java/nio/charset/Charset"), accessFlags := 25, slot := 0, constantValue := 0 }, { name := "ISO_8859_1", type := (.object "java/nio/charset/Charset"), accessFlags := 25, slot := 1, constantValue := 0 }, { name := "UTF_8", type := (.object "java/nio/charset/Charset"), accessFlags := 25, slot := 2, constantValue := 0 }, { name := "UTF_16BE", type := (.object "java/nio/charset/Charset"), accessFlags := 25, slot := 3, constantValue := 0 }, { name := "UTF_16LE", type := (.object "java/nio/charset/Charset"), accessFlags := 25, slot := 4, constantValue := 0 }, { name := "UTF_16", type := (.object "java/nio/charset/Charset"), accessFlags := 25, slot := 5, constantValue := 0 }]
  methods := #[k10m0]
  instanceTypes := #[]
  staticTypes := #[(.object "java/nio/charset/Charset"), (.object "java/nio/charset/Charset"), (.object "java/nio/charset/Charset"), (.object "java/nio/charset/Charset"), (.object "java/nio/charset/Charset"), (.object "java/nio/charset/Charset")]
  resolved := Array.replicate 68 none
  statics := some 1 }

def pool11 : Array CpInfo := pool [(18, .class_ 20), (1, u "java/nio/charset/Charset"), (0, u "cache1"), (0, u "[Ljava/lang/Object;"), (2, u "cache2"), (0, .class_ 27), (0, u "java/lang/Object"), (0, .class_ 29), (0, u "java/nio/charset/Charset$1"), (4, .class_ 36), (1, u "java/nio/charset/Charset$ThreadTrackHolder"), (21, .class_ 59), (0, u "java/nio/charset/Charset$2"), (11, .class_ 73), (1, u "java/nio/charset/Charset$ExtendedProviderHolder"), (22, u "standardProvider"), (0, u "Ljava/nio/charset/spi/CharsetProvider;"), (29, u "name"), (7, .class_ 136), (0, u "java/nio/charset/Charset$3"), (5, u "defaultCharset"), (0, u "Ljava/nio/charset/Charset;"), (14, u "zeroAliases"), (0, u "[Ljava/lang/String;"), (29, u "Ljava/lang/String;"), (2, u "aliases"), (2, u "aliasSet"), (0, u "Ljava/util/Set;"), (82, .class_ 280), (0, u "java/lang/Comparable"), (84, .class_ 366), (0, u "java/nio/charset/Charset$ExtendedProviderHolder$1")] 3

/-- java/nio/charset/Charset -/
def k11 : Class := { plain "java/nio/charset/Charset" (some 0) with
  accessFlags := 1057
  interfaces := #[4]
  cf := some (fileOf pool11 18 #[.nestMembers #[71, 365, 34, 135, 58, 28]] #[] 1057 26 #[279] #[{ accessFlags := 26, nameIndex := 96, descriptorIndex := 97, attributes := #[] }, { accessFlags := 26, nameIndex := 158, descriptorIndex := 159, attributes := #[] }, { accessFlags := 74, nameIndex := 21, descriptorIndex := 22, attributes := #[] }, { accessFlags := 74, nameIndex := 25, descriptorIndex := 22, attributes := #[] }, { accessFlags := 10, nameIndex := 142, descriptorIndex := 143, attributes := #[] }, { accessFlags := 18, nameIndex := 127, descriptorIndex := 189, attributes := #[] }, { accessFlags := 18, nameIndex := 192, descriptorIndex := 159, attributes := #[] }, { accessFlags := 2, nameIndex := 195, descriptorIndex := 196, attributes := #[] }])
  fields := #[{ name := "standardProvider", type := (.object "java/nio/charset/spi/CharsetProvider"), accessFlags := 26, slot := 0, constantValue := 0 }, { name := "zeroAliases", type := (.array (.object "java/lang/String")), accessFlags := 26, slot := 1, constantValue := 0 }, { name := "cache1", type := (.array (.object "java/lang/Object")), accessFlags := 74, slot := 2, constantValue := 0 }, { name := "cache2", type := (.array (.object "java/lang/Object")), accessFlags := 74, slot := 3, constantValue := 0 }, { name := "defaultCharset", type := (.object "java/nio/charset/Charset"), accessFlags := 10, slot := 4, constantValue := 0 }, { name := "name", type := (.object "java/lang/String"), accessFlags := 18, slot := 0, constantValue := 0 }, { name := "aliases", type := (.array (.object "java/lang/String")), accessFlags := 18, slot := 1, constantValue := 0 }, { name := "aliasSet", type := (.object "java/util/Set"), accessFlags := 2, slot := 2, constantValue := 0 }]
  methods := #[]
  instanceTypes := #[(.object "java/lang/String"), (.array (.object "java/lang/String")), (.object "java/util/Set")]
  staticTypes := #[(.object "java/nio/charset/spi/CharsetProvider"), (.array (.object "java/lang/String")), (.array (.object "java/lang/Object")), (.array (.object "java/lang/Object")), (.object "java/nio/charset/Charset")]
  resolved := Array.replicate 370 none
  statics := none }

def pool12 : Array CpInfo := pool [(1, .class_ 2), (0, u "sun/nio/cs/HistoricallyNamedCharset"), (0, .class_ 4), (0, u "java/lang/Object")] 4

/-- sun/nio/cs/HistoricallyNamedCharset -/
def k12 : Class := { plain "sun/nio/cs/HistoricallyNamedCharset" (some 0) with
  accessFlags := 1537
  interfaces := #[]
  cf := some (fileOf pool12 1 #[] #[] 1537 3 #[] #[])
  fields := #[]
  methods := #[]
  instanceTypes := #[]
  staticTypes := #[]
  resolved := Array.replicate 9 none
  statics := none }

def pool13 : Array CpInfo := pool [(2, .class_ 4), (1, u "java/nio/charset/Charset"), (130, .class_ 136), (0, u "sun/nio/cs/Unicode"), (0, .class_ 138), (0, u "sun/nio/cs/HistoricallyNamedCharset")] 15

/-- sun/nio/cs/Unicode -/
def k13 : Class := { plain "sun/nio/cs/Unicode" (some 11) with
  accessFlags := 1056
  interfaces := #[12]
  cf := some (fileOf pool13 135 #[] #[] 1056 2 #[137] #[])
  fields := #[]
  methods := #[]
  instanceTypes := #[(.object "java/lang/String"), (.array (.object "java/lang/String")), (.object "java/util/Set")]
  staticTypes := #[]
  resolved := Array.replicate 154 none
  statics := none }

def pool14 : Array CpInfo := pool [(10, .class_ 12), (1, u "sun/nio/cs/Unicode"), (0, u "<init>"), (3, .class_ 18), (0, u "sun/nio/cs/UTF_8$Decoder"), (3, .class_ 23), (0, u "sun/nio/cs/UTF_8$Encoder"), (15, .class_ 40), (0, u "sun/nio/cs/UTF_8"), (2, u "()V"), (2, u "INSTANCE"), (0, u "Lsun/nio/cs/UTF_8;"), (8, u "JLA"), (0, u "Ljdk/internal/access/JavaLangAccess;")] 26

def k14m0 : Method := { name := "<init>", desc := "()V", sig := { parameters := [], returnType := none }, accessFlags := 1, code := none }
/-- sun/nio/cs/UTF_8 -/
def k14 : Class := { plain "sun/nio/cs/UTF_8" (some 13) with
  accessFlags := 49
  interfaces := #[]
  cf := some (fileOf pool14 39 #[.nestMembers #[22, 17]] #[{ accessFlags := 1, nameIndex := 13, descriptorIndex := 43, attributes := #[] }] 49 10 #[] #[{ accessFlags := 25, nameIndex := 46, descriptorIndex := 47, attributes := #[] }, { accessFlags := 26, nameIndex := 56, descriptorIndex := 57, attributes := #[] }])
  fields := #[{ name := "INSTANCE", type := (.object "sun/nio/cs/UTF_8"), accessFlags := 25, slot := 0, constantValue := 0 }, { name := "JLA", type := (.object "jdk/internal/access/JavaLangAccess"), accessFlags := 26, slot := 1, constantValue := 0 }]
  methods := #[k14m0]
  instanceTypes := #[(.object "java/lang/String"), (.array (.object "java/lang/String")), (.object "java/util/Set")]
  staticTypes := #[(.object "sun/nio/cs/UTF_8"), (.object "jdk/internal/access/JavaLangAccess")]
  resolved := Array.replicate 84 none
  statics := some 2 }

def pool15 : Array CpInfo := pool [(2, .class_ 4), (1, u "java/lang/Object"), (0, u "<init>"), (0, u "()V"), (0, .methodref 8 9), (0, .class_ 10), (0, .nameAndType 11 12), (0, u "java/lang/StringCoding"), (0, u "countPositives"), (0, u "([BII)I"), (11, u "hasNegatives"), (0, u "([BII)Z")] 23

def k15m0 : Method := { name := "<init>", desc := "()V", sig := { parameters := [], returnType := none }, accessFlags := 2, code := none }
def k15c1 : Code := { maxStack := 3, maxLocals := 3, code := jdk_123_method_2_code, exceptionTable := #[], attributes := #[] }
def k15m1 : Method := { name := "hasNegatives", desc := "([BII)Z", sig := { parameters := [(.array .byte), .int, .int], returnType := some .boolean }, accessFlags := 9, code := some k15c1 }
def k15c2 : Code := { maxStack := 2, maxLocals := 5, code := jdk_123_method_3_code, exceptionTable := #[], attributes := #[] }
def k15m2 : Method := { name := "countPositives", desc := "([BII)I", sig := { parameters := [(.array .byte), .int, .int], returnType := some .int }, accessFlags := 9, code := some k15c2 }
/-- java/lang/StringCoding -/
def k15 : Class := { plain "java/lang/StringCoding" (some 0) with
  accessFlags := 32
  interfaces := #[]
  cf := some (fileOf pool15 8 #[] #[{ accessFlags := 2, nameIndex := 5, descriptorIndex := 6, attributes := #[] }, { accessFlags := 9, nameIndex := 24, descriptorIndex := 25, attributes := #[] }, { accessFlags := 9, nameIndex := 11, descriptorIndex := 12, attributes := #[] }] 32 2 #[] #[])
  fields := #[]
  methods := #[k15m0, k15m1, k15m2]
  instanceTypes := #[]
  staticTypes := #[]
  resolved := Array.replicate 49 none
  statics := none }

def pool16 : Array CpInfo := pool [(1, .class_ 2), (0, u "java/lang/Cloneable"), (0, .class_ 4), (0, u "java/lang/Object")] 2

/-- java/lang/Cloneable -/
def k16 : Class := { plain "java/lang/Cloneable" (some 0) with
  accessFlags := 1537
  interfaces := #[]
  cf := some (fileOf pool16 1 #[] #[] 1537 3 #[] #[])
  fields := #[]
  methods := #[]
  instanceTypes := #[]
  staticTypes := #[]
  resolved := Array.replicate 7 none
  statics := none }

def pool17 : Array CpInfo := pool [(1, .methodref 2 3), (0, .class_ 4), (0, .nameAndType 5 6), (0, u "java/lang/Object"), (0, u "<init>"), (0, u "()V"), (0, .fieldref 8 9), (0, .class_ 10), (0, .nameAndType 11 12), (0, u "com/example/orderd/orderd/provider/Notice"), (0, u "order"), (0, u "Lcom/example/orderd/orderd/order/Order;"), (0, .fieldref 8 14), (0, .nameAndType 15 16), (0, u "refund"), (0, u "Z"), (0, .fieldref 8 18), (0, .nameAndType 19 20), (0, u "sign"), (0, u "Ljava/lang/String;"), (0, .fieldref 8 22), (0, .nameAndType 23 24), (0, u "refusal"), (0, u "Lcom/example/orderd/orderd/provider/Reply;"), (0, .fieldref 8 26), (0, .nameAndType 27 28), (0, u "rejection"), (0, u "Lcom/example/orderd/orderd/order/Rejection;"), (0, .fieldref 8 30), (0, .nameAndType 31 20), (0, u "reason"), (0, .fieldref 8 33), (0, .nameAndType 34 16), (0, u "badRequest"), (9, .methodref 8 45), (0, .nameAndType 5 46), (0, u "(Lcom/example/orderd/orderd/order/Order;ZLjava/lang/String;Lcom/example/orderd/orderd/provider/Reply;Lcom/example/orderd/orderd/order/Rejection;Ljava/lang/String;Z)V"), (8, u "(Lcom/example/orderd/orderd/provider/Reply;Ljava/lang/String;)Lcom/example/orderd/orderd/provider/Notice;"), (3, u "isRefused"), (0, u "()Z"), (1, u "isBadRequest"), (0, u "isRejected"), (0, u "isRefund"), (0, u "()Lcom/example/orderd/orderd/order/Order;"), (0, u "()Ljava/lang/String;"), (0, u "()Lcom/example/orderd/orderd/provider/Reply;"), (0, u "()Lcom/example/orderd/orderd/order/Rejection;")] 2

def k17c0 : Code := { maxStack := 2, maxLocals := 8, code := prog_26_method_1_code, exceptionTable := #[], attributes := #[] }
def k17m0 : Method := { name := "<init>", desc := "(Lcom/example/orderd/orderd/order/Order;ZLjava/lang/String;Lcom/example/orderd/orderd/provider/Reply;Lcom/example/orderd/orderd/order/Rejection;Ljava/lang/String;Z)V", sig := { parameters := [(.object "com/example/orderd/orderd/order/Order"), .boolean, (.object "java/lang/String"), (.object "com/example/orderd/orderd/provider/Reply"), (.object "com/example/orderd/orderd/order/Rejection"), (.object "java/lang/String"), .boolean], returnType := none }, accessFlags := 2, code := some k17c0 }
def k17c1 : Code := { maxStack := 9, maxLocals := 2, code := prog_26_method_5_code, exceptionTable := #[], attributes := #[] }
def k17m1 : Method := { name := "badRequest", desc := "(Lcom/example/orderd/orderd/provider/Reply;Ljava/lang/String;)Lcom/example/orderd/orderd/provider/Notice;", sig := { parameters := [(.object "com/example/orderd/orderd/provider/Reply"), (.object "java/lang/String")], returnType := some (.object "com/example/orderd/orderd/provider/Notice") }, accessFlags := 8, code := some k17c1 }
def k17c2 : Code := { maxStack := 1, maxLocals := 1, code := prog_26_method_9_code, exceptionTable := #[], attributes := #[] }
def k17m2 : Method := { name := "isRefused", desc := "()Z", sig := { parameters := [], returnType := some .boolean }, accessFlags := 1, code := some k17c2 }
def k17c3 : Code := { maxStack := 1, maxLocals := 1, code := prog_26_method_10_code, exceptionTable := #[], attributes := #[] }
def k17m3 : Method := { name := "isBadRequest", desc := "()Z", sig := { parameters := [], returnType := some .boolean }, accessFlags := 1, code := some k17c3 }
def k17c4 : Code := { maxStack := 1, maxLocals := 1, code := prog_26_method_11_code, exceptionTable := #[], attributes := #[] }
def k17m4 : Method := { name := "isRejected", desc := "()Z", sig := { parameters := [], returnType := some .boolean }, accessFlags := 1, code := some k17c4 }
def k17c5 : Code := { maxStack := 1, maxLocals := 1, code := prog_26_method_12_code, exceptionTable := #[], attributes := #[] }
def k17m5 : Method := { name := "isRefund", desc := "()Z", sig := { parameters := [], returnType := some .boolean }, accessFlags := 1, code := some k17c5 }
def k17c6 : Code := { maxStack := 1, maxLocals := 1, code := prog_26_method_13_code, exceptionTable := #[], attributes := #[] }
def k17m6 : Method := { name := "order", desc := "()Lcom/example/orderd/orderd/order/Order;", sig := { parameters := [], returnType := some (.object "com/example/orderd/orderd/order/Order") }, accessFlags := 1, code := some k17c6 }
def k17c7 : Code := { maxStack := 1, maxLocals := 1, code := prog_26_method_14_code, exceptionTable := #[], attributes := #[] }
def k17m7 : Method := { name := "sign", desc := "()Ljava/lang/String;", sig := { parameters := [], returnType := some (.object "java/lang/String") }, accessFlags := 1, code := some k17c7 }
def k17c8 : Code := { maxStack := 1, maxLocals := 1, code := prog_26_method_15_code, exceptionTable := #[], attributes := #[] }
def k17m8 : Method := { name := "refusal", desc := "()Lcom/example/orderd/orderd/provider/Reply;", sig := { parameters := [], returnType := some (.object "com/example/orderd/orderd/provider/Reply") }, accessFlags := 1, code := some k17c8 }
def k17c9 : Code := { maxStack := 1, maxLocals := 1, code := prog_26_method_16_code, exceptionTable := #[], attributes := #[] }
def k17m9 : Method := { name := "rejection", desc := "()Lcom/example/orderd/orderd/order/Rejection;", sig := { parameters := [], returnType := some (.object "com/example/orderd/orderd/order/Rejection") }, accessFlags := 1, code := some k17c9 }
def k17c10 : Code := { maxStack := 1, maxLocals := 1, code := prog_26_method_17_code, exceptionTable := #[], attributes := #[] }
def k17m10 : Method := { name := "reason", desc := "()Ljava/lang/String;", sig := { parameters := [], returnType := some (.object "java/lang/String") }, accessFlags := 1, code := some k17c10 }
/-- com/example/orderd/orderd/provider/Notice -/
def k17 : Class := { plain "com/example/orderd/orderd/provider/Notice" (some 0) with
  accessFlags := 33
  interfaces := #[]
  cf := some (fileOf pool17 8 #[] #[{ accessFlags := 2, nameIndex := 5, descriptorIndex := 46, attributes := #[] }, { accessFlags := 8, nameIndex := 34, descriptorIndex := 55, attributes := #[] }, { accessFlags := 1, nameIndex := 59, descriptorIndex := 60, attributes := #[] }, { accessFlags := 1, nameIndex := 62, descriptorIndex := 60, attributes := #[] }, { accessFlags := 1, nameIndex := 63, descriptorIndex := 60, attributes := #[] }, { accessFlags := 1, nameIndex := 64, descriptorIndex := 60, attributes := #[] }, { accessFlags := 1, nameIndex := 11, descriptorIndex := 65, attributes := #[] }, { accessFlags := 1, nameIndex := 19, descriptorIndex := 66, attributes := #[] }, { accessFlags := 1, nameIndex := 23, descriptorIndex := 67, attributes := #[] }, { accessFlags := 1, nameIndex := 27, descriptorIndex := 68, attributes := #[] }, { accessFlags := 1, nameIndex := 31, descriptorIndex := 66, attributes := #[] }] 33 2 #[] #[{ accessFlags := 18, nameIndex := 11, descriptorIndex := 12, attributes := #[] }, { accessFlags := 18, nameIndex := 15, descriptorIndex := 16, attributes := #[] }, { accessFlags := 18, nameIndex := 19, descriptorIndex := 20, attributes := #[] }, { accessFlags := 18, nameIndex := 23, descriptorIndex := 24, attributes := #[] }, { accessFlags := 18, nameIndex := 27, descriptorIndex := 28, attributes := #[] }, { accessFlags := 18, nameIndex := 31, descriptorIndex := 20, attributes := #[] }, { accessFlags := 18, nameIndex := 34, descriptorIndex := 16, attributes := #[] }])
  fields := #[{ name := "order", type := (.object "com/example/orderd/orderd/order/Order"), accessFlags := 18, slot := 0, constantValue := 0 }, { name := "refund", type := .boolean, accessFlags := 18, slot := 1, constantValue := 0 }, { name := "sign", type := (.object "java/lang/String"), accessFlags := 18, slot := 2, constantValue := 0 }, { name := "refusal", type := (.object "com/example/orderd/orderd/provider/Reply"), accessFlags := 18, slot := 3, constantValue := 0 }, { name := "rejection", type := (.object "com/example/orderd/orderd/order/Rejection"), accessFlags := 18, slot := 4, constantValue := 0 }, { name := "reason", type := (.object "java/lang/String"), accessFlags := 18, slot := 5, constantValue := 0 }, { name := "badRequest", type := .boolean, accessFlags := 18, slot := 6, constantValue := 0 }]
  methods := #[k17m0, k17m1, k17m2, k17m3, k17m4, k17m5, k17m6, k17m7, k17m8, k17m9, k17m10]
  instanceTypes := #[(.object "com/example/orderd/orderd/order/Order"), .boolean, (.object "java/lang/String"), (.object "com/example/orderd/orderd/provider/Reply"), (.object "com/example/orderd/orderd/order/Rejection"), (.object "java/lang/String"), .boolean]
  staticTypes := #[]
  resolved := Array.replicate 71 none
  statics := none }

def pool18 : Array CpInfo := pool [(4, .class_ 6), (1, u "java/lang/Object"), (0, u "<init>"), (0, u "()V"), (5, .class_ 16), (1, u "java/lang/StringLatin1"), (104, u "$assertionsDisabled"), (0, u "Z"), (98, .class_ 223), (1, u "java/lang/StringLatin1$LinesSpliterator"), (166, .class_ 391), (0, u "java/lang/StringLatin1$CharsSpliterator")] 3

def k18m0 : Method := { name := "<init>", desc := "()V", sig := { parameters := [], returnType := none }, accessFlags := 0, code := none }
/-- java/lang/StringLatin1 -/
def k18 : Class := { plain "java/lang/StringLatin1" (some 0) with
  accessFlags := 48
  interfaces := #[]
  cf := some (fileOf pool18 14 #[.nestMembers #[390, 221]] #[{ accessFlags := 0, nameIndex := 7, descriptorIndex := 8, attributes := #[] }] 48 4 #[] #[{ accessFlags := 4120, nameIndex := 121, descriptorIndex := 122, attributes := #[] }])
  fields := #[{ name := "$assertionsDisabled", type := .boolean, accessFlags := 4120, slot := 0, constantValue := 0 }]
  methods := #[k18m0]
  instanceTypes := #[]
  staticTypes := #[.boolean]
  resolved := Array.replicate 395 none
  statics := none }

def pool19 : Array CpInfo := pool [(2, .class_ 4), (1, u "java/lang/Object"), (0, u "<init>"), (0, u "()V"), (17, .class_ 26), (1, u "jdk/internal/util/Preconditions"), (28, .class_ 56), (0, u "jdk/internal/util/Preconditions$4"), (57, .class_ 115), (0, u "jdk/internal/util/Preconditions$1"), (7, u "SIOOBE_FORMATTER"), (0, u "Ljava/util/function/BiFunction;"), (0, .class_ 126), (0, u "jdk/internal/util/Preconditions$2"), (3, u "AIOOBE_FORMATTER"), (0, .class_ 132), (0, u "jdk/internal/util/Preconditions$3"), (3, u "IOOBE_FORMATTER")] 57

def k19m0 : Method := { name := "<init>", desc := "()V", sig := { parameters := [], returnType := none }, accessFlags := 1, code := none }
/-- jdk/internal/util/Preconditions -/
def k19 : Class := { plain "jdk/internal/util/Preconditions" (some 0) with
  accessFlags := 33
  interfaces := #[]
  cf := some (fileOf pool19 24 #[.nestMembers #[55, 131, 125, 114]] #[{ accessFlags := 1, nameIndex := 5, descriptorIndex := 6, attributes := #[] }] 33 2 #[] #[{ accessFlags := 25, nameIndex := 123, descriptorIndex := 124, attributes := #[] }, { accessFlags := 25, nameIndex := 130, descriptorIndex := 124, attributes := #[] }, { accessFlags := 25, nameIndex := 136, descriptorIndex := 124, attributes := #[] }])
  fields := #[{ name := "SIOOBE_FORMATTER", type := (.object "java/util/function/BiFunction"), accessFlags := 25, slot := 0, constantValue := 0 }, { name := "AIOOBE_FORMATTER", type := (.object "java/util/function/BiFunction"), accessFlags := 25, slot := 1, constantValue := 0 }, { name := "IOOBE_FORMATTER", type := (.object "java/util/function/BiFunction"), accessFlags := 25, slot := 2, constantValue := 0 }]
  methods := #[k19m0]
  instanceTypes := #[]
  staticTypes := #[(.object "java/util/function/BiFunction"), (.object "java/util/function/BiFunction"), (.object "java/util/function/BiFunction")]
  resolved := Array.replicate 194 none
  statics := some 3 }

def pool20 : Array CpInfo := pool [(9, u "<init>"), (6, .class_ 18), (1, u "java/lang/Object"), (0, u "()V"), (1, .class_ 23), (1, u "jdk/internal/util/ArraysSupport"), (0, u "LOG2_ARRAY_LONG_INDEX_SCALE"), (0, u "I"), (2, u "U"), (0, u "Ljdk/internal/misc/Unsafe;"), (8, u "BIG_ENDIAN"), (0, u "Z"), (8, u "LOG2_BYTE_BIT_SIZE"), (4, u "LOG2_ARRAY_INT_INDEX_SCALE"), (54, u "JLA"), (0, u "Ljdk/internal/access/JavaLangAccess;"), (11, u "LOG2_ARRAY_BOOLEAN_INDEX_SCALE"), (9, u "LOG2_ARRAY_BYTE_INDEX_SCALE"), (5, u "LOG2_ARRAY_CHAR_INDEX_SCALE"), (5, u "LOG2_ARRAY_SHORT_INDEX_SCALE"), (18, u "LOG2_ARRAY_FLOAT_INDEX_SCALE"), (24, u "LOG2_ARRAY_DOUBLE_INDEX_SCALE"), (89, u "T_BOOLEAN"), (2, u "T_CHAR"), (1, u "T_FLOAT"), (1, u "T_DOUBLE"), (1, u "T_BYTE"), (1, u "T_SHORT"), (1, u "T_INT"), (1, u "T_LONG"), (1, u "SOFT_MAX_ARRAY_LENGTH")] 83

def k20m0 : Method := { name := "<init>", desc := "()V", sig := { parameters := [], returnType := none }, accessFlags := 2, code := none }
/-- jdk/internal/util/ArraysSupport -/
def k20 : Class := { plain "jdk/internal/util/ArraysSupport" (some 0) with
  accessFlags := 33
  interfaces := #[]
  cf := some (fileOf pool20 21 #[] #[{ accessFlags := 2, nameIndex := 9, descriptorIndex := 19, attributes := #[] }] 33 16 #[] #[{ accessFlags := 24, nameIndex := 28, descriptorIndex := 29, attributes := #[] }, { accessFlags := 26, nameIndex := 38, descriptorIndex := 39, attributes := #[] }, { accessFlags := 25, nameIndex := 121, descriptorIndex := 25, attributes := #[] }, { accessFlags := 25, nameIndex := 131, descriptorIndex := 25, attributes := #[] }, { accessFlags := 25, nameIndex := 137, descriptorIndex := 25, attributes := #[] }, { accessFlags := 25, nameIndex := 143, descriptorIndex := 25, attributes := #[] }, { accessFlags := 25, nameIndex := 53, descriptorIndex := 25, attributes := #[] }, { accessFlags := 25, nameIndex := 24, descriptorIndex := 25, attributes := #[] }, { accessFlags := 25, nameIndex := 162, descriptorIndex := 25, attributes := #[] }, { accessFlags := 25, nameIndex := 187, descriptorIndex := 25, attributes := #[] }, { accessFlags := 26, nameIndex := 48, descriptorIndex := 25, attributes := #[] }, { accessFlags := 25, nameIndex := 277, descriptorIndex := 25, attributes := #[] }, { accessFlags := 25, nameIndex := 280, descriptorIndex := 25, attributes := #[] }, { accessFlags := 25, nameIndex := 282, descriptorIndex := 25, attributes := #[] }, { accessFlags := 25, nameIndex := 284, descriptorIndex := 25, attributes := #[] }, { accessFlags := 25, nameIndex := 286, descriptorIndex := 25, attributes := #[] }, { accessFlags := 25, nameIndex := 288, descriptorIndex := 25, attributes := #[] }, { accessFlags := 25, nameIndex := 290, descriptorIndex := 25, attributes := #[] }, { accessFlags := 25, nameIndex := 292, descriptorIndex := 25, attributes := #[] }, { accessFlags := 26, nameIndex := 108, descriptorIndex := 109, attributes := #[] }, { accessFlags := 25, nameIndex := 294, descriptorIndex := 25, attributes := #[] }])
  fields := #[{ name := "U", type := (.object "jdk/internal/misc/Unsafe"), accessFlags := 24, slot := 0, constantValue := 0 }, { name := "BIG_ENDIAN", type := .boolean, accessFlags := 26, slot := 1, constantValue := 0 }, { name := "LOG2_ARRAY_BOOLEAN_INDEX_SCALE", type := .int, accessFlags := 25, slot := 2, constantValue := 0 }, { name := "LOG2_ARRAY_BYTE_INDEX_SCALE", type := .int, accessFlags := 25, slot := 3, constantValue := 0 }, { name := "LOG2_ARRAY_CHAR_INDEX_SCALE", type := .int, accessFlags := 25, slot := 4, constantValue := 0 }, { name := "LOG2_ARRAY_SHORT_INDEX_SCALE", type := .int, accessFlags := 25, slot := 5, constantValue := 0 }, { name := "LOG2_ARRAY_INT_INDEX_SCALE", type := .int, accessFlags := 25, slot := 6, constantValue := 0 }, { name := "LOG2_ARRAY_LONG_INDEX_SCALE", type := .int, accessFlags := 25, slot := 7, constantValue := 0 }, { name := "LOG2_ARRAY_FLOAT_INDEX_SCALE", type := .int, accessFlags := 25, slot := 8, constantValue := 0 }, { name := "LOG2_ARRAY_DOUBLE_INDEX_SCALE", type := .int, accessFlags := 25, slot := 9, constantValue := 0 }, { name := "LOG2_BYTE_BIT_SIZE", type := .int, accessFlags := 26, slot := 10, constantValue := 0 }, { name := "T_BOOLEAN", type := .int, accessFlags := 25, slot := 11, constantValue := 0 }, { name := "T_CHAR", type := .int, accessFlags := 25, slot := 12, constantValue := 0 }, { name := "T_FLOAT", type := .int, accessFlags := 25, slot := 13, constantValue := 0 }, { name := "T_DOUBLE", type := .int, accessFlags := 25, slot := 14, constantValue := 0 }, { name := "T_BYTE", type := .int, accessFlags := 25, slot := 15, constantValue := 0 }, { name := "T_SHORT", type := .int, accessFlags := 25, slot := 16, constantValue := 0 }, { name := "T_INT", type := .int, accessFlags := 25, slot := 17, constantValue := 0 }, { name := "T_LONG", type := .int, accessFlags := 25, slot := 18, constantValue := 0 }, { name := "JLA", type := (.object "jdk/internal/access/JavaLangAccess"), accessFlags := 26, slot := 19, constantValue := 0 }, { name := "SOFT_MAX_ARRAY_LENGTH", type := .int, accessFlags := 25, slot := 20, constantValue := 0 }]
  methods := #[k20m0]
  instanceTypes := #[]
  staticTypes := #[(.object "jdk/internal/misc/Unsafe"), .boolean, .int, .int, .int, .int, .int, .int, .int, .int, .int, .int, .int, .int, .int, .int, .int, .int, .int, (.object "jdk/internal/access/JavaLangAccess"), .int]
  resolved := Array.replicate 378 none
  statics := none }

/-- the primitive byte -/
def k21 : Class := { plain "byte" none with kind := .primitive 'B', accessFlags := 0x411 }
/-- [B -/
def k22 : Class := { plain "[B" (some 0) with kind := .array 21 .byte, interfaces := #[16, 3], accessFlags := 1041 }

/-- the primitive char -/
def k23 : Class := { plain "char" none with kind := .primitive 'C', accessFlags := 0x411 }
/-- [C -/
def k24 : Class := { plain "[C" (some 0) with kind := .array 23 .char, interfaces := #[16, 3], accessFlags := 1041 }

/-- the primitive int -/
def k25 : Class := { plain "int" none with kind := .primitive 'I', accessFlags := 0x411 }
/-- [I -/
def k26 : Class := { plain "[I" (some 0) with kind := .array 25 .int, interfaces := #[16, 3], accessFlags := 1041 }

def heap : Heap := #[{ cls := 8, slots := #[.long 0, .int 1, .null, .int 0, .null, .int 0, .int 0], vm := .statics 8 },
  { cls := 10, slots := #[.null, .null, .ref 4, .null, .null, .null], vm := .statics 10 },
  { cls := 14, slots := #[.ref 4, .null], vm := .statics 14 },
  { cls := 19, slots := #[.null, .null, .null], vm := .statics 19 },
  { cls := 14, slots := #[.null, .null, .null], vm := .none }]
def classes : Array Class := #[k0, k1, k2, k3, k4, k5, k6, k7, k8, k9, k10, k11, k12, k13, k14, k15, k16, k17, k18, k19, k20, k21, k22, k23, k24, k25, k26]
def interned : List (Array UInt16 × Addr) := []
def slotsUsed : Nat := 21
def theMethod : MethodId := ⟨1, 1⟩
def args0 : Array Value := #[.int 1, .int 2, .int 3, .int 3]
def aboutOver (below : List Frame) : State where
  vm := { classes := classes, interned := interned.toArray }
  heap := heap
  slotsUsed := slotsUsed
  threads := #[{ frames := .invoking theMethod args0 :: below }]
def below0 : List Frame := [.native { method := ⟨0, 0⟩, args := #[] }]
def about1 : State := aboutOver below0
def p0 : Program := .bare "" "" ""
def e0 : Env := launch0.env 0 0 0
theorem w_frames : about1.frames = Frame.invoking theMethod args0 :: below0 := rfl
set_option maxRecDepth 65536 in
theorem w_args : argsFit about1.vm theMethod args0 = true := by decide +kernel
set_option maxRecDepth 65536 in
theorem w_heap : heapFits about1 = true := by decide +kernel
set_option maxRecDepth 65536 in
theorem w_runnable : about1.curStatus? = some .runnable := by decide +kernel
set_option maxRecDepth 65536 in
theorem w_alone : about1.alone = true := by decide +kernel
set_option maxRecDepth 65536 in
theorem w_named : about1.methodNamed? x = some theMethod := by decide +kernel
set_option maxRecDepth 65536 in
theorem w_hears : about1.hears theMethod below0 = true := by decide +kernel
set_option maxRecDepth 65536 in
theorem w_ripe : about1.ripe theMethod args0 below0 = true := by decide +kernel
theorem w_running : about1.status = .running := rfl
set_option maxRecDepth 65536 in
theorem w_room : about1.hasRoom e0.platform room_1 = true :=
  launch0.hasRoom_least _ room_1 (by decide +kernel) (by decide +kernel) (by decide +kernel) (by decide +kernel) (by decide +kernel) (by decide +kernel)
theorem allAtoms_all (ts : List Jvm.Cond) (a : Array Jvm.Value) (st : Jvm.State) : (allAtoms ts).before a st = ts.all (fun c => c.before a st) := by
  induction ts with
  | nil => rfl
  | cons c t ih =>
    show (Jvm.Cond.and c (allAtoms t)).before a st = _
    rw [Jvm.Cond.before_and, ih, List.all_cons]
def words1 : List Jvm.Cond := Jvm.Cond.code x code maxLocals ret :: tables_1
/-- a 'code' word, met by the world's own term for the bytes: nothing is compared byte by byte -/
theorem code_word {y : MethodName} {bytes : ByteArray} {mx : Nat} {rt : Option FieldType} {a : Array Value} {s : State} {m : MethodId} {meth : Method} {c : Code} (h1 : s.methodNamed? y = some m) (h2 : s.vm.method? m = some meth) (h3 : meth.code = some c) (h4 : c.code = bytes)
    (h5 : (c.maxLocals == mx && c.exceptionTable.isEmpty && decide (c.maxStack ≤ mostOperands) && decide (meth.sig.returnType = rt) && !meth.locks && decide (parseMethodDescriptor y.desc = some meth.sig)) = true) : (Jvm.Cond.code y bytes mx rt).before a s = true := by
  simp only [Bool.and_eq_true, beq_iff_eq, Bool.not_eq_true', decide_eq_true_eq] at h5
  obtain ⟨⟨⟨⟨⟨g1, g2⟩, g3⟩, g4⟩, g5⟩, g6⟩ := h5
  simp [Cond.before, Cond.holds, Cond.value, h1, h2, h3, h4, g1, g2, g3, g4, g5, g6]
def isCode : Jvm.Cond → Bool
  | .code _ _ _ _ => true
  | _ => false
theorem all_split {L : List Jvm.Cond} {P : Jvm.Cond → Bool} (h1 : L.all (fun c => isCode c || P c) = true) (h2 : ∀ c ∈ L.filter isCode, P c = true) : L.all P = true := by
  refine List.all_eq_true.mpr fun c hc => ?_
  have h := List.all_eq_true.mp h1 c hc
  rcases Bool.eq_false_or_eq_true (isCode c) with hi | hi
  · exact h2 c (List.mem_filter.mpr ⟨hc, hi⟩)
  · simpa [hi] using h
set_option maxRecDepth 65536 in
theorem w_c0 : (Jvm.Cond.code x code maxLocals ret).before args0 about1 = true := code_word (m := ⟨1, 1⟩) (meth := k1m1) (c := k1c1) (by decide +kernel) rfl rfl rfl (by decide +kernel)
set_option maxRecDepth 65536 in
theorem w_c1 : (Jvm.Cond.code ({ cls := "java/lang/String", name := "<init>", desc := "([C)V" } : Jvm.MethodName) jdk_42_method_3_code (2 : Nat) (Option.none : Option Jvm.ClassFile.FieldType)).before args0 about1 = true := code_word (m := ⟨8, 1⟩) (meth := k8m1) (c := k8c1) (by decide +kernel) rfl rfl rfl (by decide +kernel)
set_option maxRecDepth 65536 in
theorem w_c2 : (Jvm.Cond.code ({ cls := "java/lang/String", name := "<init>", desc := "([CIILjava/lang/Void;)V" } : Jvm.MethodName) jdk_42_method_149_code (6 : Nat) (Option.none : Option Jvm.ClassFile.FieldType)).before args0 about1 = true := code_word (m := ⟨8, 5⟩) (meth := k8m5) (c := k8c5) (by decide +kernel) rfl rfl rfl (by decide +kernel)
set_option maxRecDepth 65536 in
theorem w_c3 : (Jvm.Cond.code ({ cls := "java/lang/Object", name := "<init>", desc := "()V" } : Jvm.MethodName) object_method_1_code (1 : Nat) (Option.none : Option Jvm.ClassFile.FieldType)).before args0 about1 = true := code_word (m := ⟨0, 0⟩) (meth := k0m0) (c := k0c0) (by decide +kernel) rfl rfl rfl (by decide +kernel)
set_option maxRecDepth 65536 in
theorem w_c4 : (Jvm.Cond.code ({ cls := "java/lang/StringUTF16", name := "compress", desc := "([CII)[B" } : Jvm.MethodName) jdk_52_method_16_code (6 : Nat) (Option.some (Jvm.ClassFile.FieldType.array Jvm.ClassFile.FieldType.byte))).before args0 about1 = true := code_word (m := ⟨9, 4⟩) (meth := k9m4) (c := k9c4) (by decide +kernel) rfl rfl rfl (by decide +kernel)
set_option maxRecDepth 65536 in
theorem w_c5 : (Jvm.Cond.code ({ cls := "java/lang/StringUTF16", name := "compress", desc := "([CI[BII)I" } : Jvm.MethodName) jdk_52_method_21_code (7 : Nat) (Option.some Jvm.ClassFile.FieldType.int)).before args0 about1 = true := code_word (m := ⟨9, 5⟩) (meth := k9m5) (c := k9c5) (by decide +kernel) rfl rfl rfl (by decide +kernel)
set_option maxRecDepth 65536 in
theorem w_c6 : (Jvm.Cond.code ({ cls := "java/lang/StringUTF16", name := "coderFromArrayLen", desc := "([BI)B" } : Jvm.MethodName) jdk_52_method_15_code (2 : Nat) (Option.some Jvm.ClassFile.FieldType.byte)).before args0 about1 = true := code_word (m := ⟨9, 3⟩) (meth := k9m3) (c := k9c3) (by decide +kernel) rfl rfl rfl (by decide +kernel)
set_option maxRecDepth 65536 in
theorem w_c7 : (Jvm.Cond.code ({ cls := "com/example/orderd/orderd/provider/Reply", name := "<init>", desc := "(ILjava/lang/String;Ljava/lang/String;)V" } : Jvm.MethodName) prog_29_method_1_code (4 : Nat) (Option.none : Option Jvm.ClassFile.FieldType)).before args0 about1 = true := code_word (m := ⟨2, 0⟩) (meth := k2m0) (c := k2c0) (by decide +kernel) rfl rfl rfl (by decide +kernel)
set_option maxRecDepth 65536 in
theorem w_c8 : (Jvm.Cond.code ({ cls := "java/lang/String", name := "getBytes", desc := "(Ljava/nio/charset/Charset;)[B" } : Jvm.MethodName) jdk_42_method_64_code (2 : Nat) (Option.some (Jvm.ClassFile.FieldType.array Jvm.ClassFile.FieldType.byte))).before args0 about1 = true := code_word (m := ⟨8, 4⟩) (meth := k8m4) (c := k8c4) (by decide +kernel) rfl rfl rfl (by decide +kernel)
set_option maxRecDepth 65536 in
theorem w_c9 : (Jvm.Cond.code ({ cls := "java/lang/String", name := "coder", desc := "()B" } : Jvm.MethodName) jdk_42_method_152_code (1 : Nat) (Option.some Jvm.ClassFile.FieldType.byte)).before args0 about1 = true := code_word (m := ⟨8, 6⟩) (meth := k8m6) (c := k8c6) (by decide +kernel) rfl rfl rfl (by decide +kernel)
set_option maxRecDepth 65536 in
theorem w_c10 : (Jvm.Cond.code ({ cls := "java/lang/String", name := "encode", desc := "(Ljava/nio/charset/Charset;B[B)[B" } : Jvm.MethodName) jdk_42_method_18_code (3 : Nat) (Option.some (Jvm.ClassFile.FieldType.array Jvm.ClassFile.FieldType.byte))).before args0 about1 = true := code_word (m := ⟨8, 2⟩) (meth := k8m2) (c := k8c2) (by decide +kernel) rfl rfl rfl (by decide +kernel)
set_option maxRecDepth 65536 in
theorem w_c11 : (Jvm.Cond.code ({ cls := "java/lang/String", name := "encodeUTF8", desc := "(B[BZ)[B" } : Jvm.MethodName) jdk_42_method_46_code (9 : Nat) (Option.some (Jvm.ClassFile.FieldType.array Jvm.ClassFile.FieldType.byte))).before args0 about1 = true := code_word (m := ⟨8, 3⟩) (meth := k8m3) (c := k8c3) (by decide +kernel) rfl rfl rfl (by decide +kernel)
set_option maxRecDepth 65536 in
theorem w_c12 : (Jvm.Cond.code ({ cls := "java/lang/StringCoding", name := "hasNegatives", desc := "([BII)Z" } : Jvm.MethodName) jdk_123_method_2_code (3 : Nat) (Option.some Jvm.ClassFile.FieldType.boolean)).before args0 about1 = true := code_word (m := ⟨15, 1⟩) (meth := k15m1) (c := k15c1) (by decide +kernel) rfl rfl rfl (by decide +kernel)
set_option maxRecDepth 65536 in
theorem w_c13 : (Jvm.Cond.code ({ cls := "java/lang/StringCoding", name := "countPositives", desc := "([BII)I" } : Jvm.MethodName) jdk_123_method_3_code (5 : Nat) (Option.some Jvm.ClassFile.FieldType.int)).before args0 about1 = true := code_word (m := ⟨15, 2⟩) (meth := k15m2) (c := k15c2) (by decide +kernel) rfl rfl rfl (by decide +kernel)
set_option maxRecDepth 65536 in
theorem w_c14 : (Jvm.Cond.code ({ cls := "com/example/orderd/orderd/provider/Notice", name := "badRequest", desc := "(Lcom/example/orderd/orderd/provider/Reply;Ljava/lang/String;)Lcom/example/orderd/orderd/provider/Notice;" } : Jvm.MethodName) prog_26_method_5_code (2 : Nat) (Option.some (Jvm.ClassFile.FieldType.object "com/example/orderd/orderd/provider/Notice"))).before args0 about1 = true := code_word (m := ⟨17, 1⟩) (meth := k17m1) (c := k17c1) (by decide +kernel) rfl rfl rfl (by decide +kernel)
set_option maxRecDepth 65536 in
theorem w_c15 : (Jvm.Cond.code ({ cls := "com/example/orderd/orderd/provider/Notice", name := "<init>", desc := "(Lcom/example/orderd/orderd/order/Order;ZLjava/lang/String;Lcom/example/orderd/orderd/provider/Reply;Lcom/example/orderd/orderd/order/Rejection;Ljava/lang/String;Z)V" } : Jvm.MethodName) prog_26_method_1_code (8 : Nat) (Option.none : Option Jvm.ClassFile.FieldType)).before args0 about1 = true := code_word (m := ⟨17, 0⟩) (meth := k17m0) (c := k17c0) (by decide +kernel) rfl rfl rfl (by decide +kernel)
set_option maxRecDepth 65536 in
theorem w_c16 : (Jvm.Cond.code ({ cls := "com/example/orderd/orderd/provider/Notice", name := "isRefused", desc := "()Z" } : Jvm.MethodName) prog_26_method_9_code (1 : Nat) (Option.some Jvm.ClassFile.FieldType.boolean)).before args0 about1 = true := code_word (m := ⟨17, 2⟩) (meth := k17m2) (c := k17c2) (by decide +kernel) rfl rfl rfl (by decide +kernel)
set_option maxRecDepth 65536 in
theorem w_c17 : (Jvm.Cond.code ({ cls := "com/example/orderd/orderd/provider/Notice", name := "isBadRequest", desc := "()Z" } : Jvm.MethodName) prog_26_method_10_code (1 : Nat) (Option.some Jvm.ClassFile.FieldType.boolean)).before args0 about1 = true := code_word (m := ⟨17, 3⟩) (meth := k17m3) (c := k17c3) (by decide +kernel) rfl rfl rfl (by decide +kernel)
set_option maxRecDepth 65536 in
theorem w_c18 : (Jvm.Cond.code ({ cls := "com/example/orderd/orderd/provider/Notice", name := "isRejected", desc := "()Z" } : Jvm.MethodName) prog_26_method_11_code (1 : Nat) (Option.some Jvm.ClassFile.FieldType.boolean)).before args0 about1 = true := code_word (m := ⟨17, 4⟩) (meth := k17m4) (c := k17c4) (by decide +kernel) rfl rfl rfl (by decide +kernel)
set_option maxRecDepth 65536 in
theorem w_c19 : (Jvm.Cond.code ({ cls := "com/example/orderd/orderd/provider/Notice", name := "isRefund", desc := "()Z" } : Jvm.MethodName) prog_26_method_12_code (1 : Nat) (Option.some Jvm.ClassFile.FieldType.boolean)).before args0 about1 = true := code_word (m := ⟨17, 5⟩) (meth := k17m5) (c := k17c5) (by decide +kernel) rfl rfl rfl (by decide +kernel)
set_option maxRecDepth 65536 in
theorem w_c20 : (Jvm.Cond.code ({ cls := "com/example/orderd/orderd/provider/Notice", name := "order", desc := "()Lcom/example/orderd/orderd/order/Order;" } : Jvm.MethodName) prog_26_method_13_code (1 : Nat) (Option.some (Jvm.ClassFile.FieldType.object "com/example/orderd/orderd/order/Order"))).before args0 about1 = true := code_word (m := ⟨17, 6⟩) (meth := k17m6) (c := k17c6) (by decide +kernel) rfl rfl rfl (by decide +kernel)
set_option maxRecDepth 65536 in
theorem w_c21 : (Jvm.Cond.code ({ cls := "com/example/orderd/orderd/provider/Notice", name := "sign", desc := "()Ljava/lang/String;" } : Jvm.MethodName) prog_26_method_14_code (1 : Nat) (Option.some (Jvm.ClassFile.FieldType.object "java/lang/String"))).before args0 about1 = true := code_word (m := ⟨17, 7⟩) (meth := k17m7) (c := k17c7) (by decide +kernel) rfl rfl rfl (by decide +kernel)
set_option maxRecDepth 65536 in
theorem w_c22 : (Jvm.Cond.code ({ cls := "com/example/orderd/orderd/provider/Notice", name := "refusal", desc := "()Lcom/example/orderd/orderd/provider/Reply;" } : Jvm.MethodName) prog_26_method_15_code (1 : Nat) (Option.some (Jvm.ClassFile.FieldType.object "com/example/orderd/orderd/provider/Reply"))).before args0 about1 = true := code_word (m := ⟨17, 8⟩) (meth := k17m8) (c := k17c8) (by decide +kernel) rfl rfl rfl (by decide +kernel)
set_option maxRecDepth 65536 in
theorem w_c23 : (Jvm.Cond.code ({ cls := "com/example/orderd/orderd/provider/Notice", name := "rejection", desc := "()Lcom/example/orderd/orderd/order/Rejection;" } : Jvm.MethodName) prog_26_method_16_code (1 : Nat) (Option.some (Jvm.ClassFile.FieldType.object "com/example/orderd/orderd/order/Rejection"))).before args0 about1 = true := code_word (m := ⟨17, 9⟩) (meth := k17m9) (c := k17c9) (by decide +kernel) rfl rfl rfl (by decide +kernel)
set_option maxRecDepth 65536 in
theorem w_c24 : (Jvm.Cond.code ({ cls := "com/example/orderd/orderd/provider/Notice", name := "reason", desc := "()Ljava/lang/String;" } : Jvm.MethodName) prog_26_method_17_code (1 : Nat) (Option.some (Jvm.ClassFile.FieldType.object "java/lang/String"))).before args0 about1 = true := code_word (m := ⟨17, 10⟩) (meth := k17m10) (c := k17c10) (by decide +kernel) rfl rfl rfl (by decide +kernel)
set_option maxRecDepth 65536 in
theorem w_c25 : (Jvm.Cond.code ({ cls := "java/lang/StringUTF16", name := "newBytesFor", desc := "(I)[B" } : Jvm.MethodName) jdk_52_method_2_code (1 : Nat) (Option.some (Jvm.ClassFile.FieldType.array Jvm.ClassFile.FieldType.byte))).before args0 about1 = true := code_word (m := ⟨9, 1⟩) (meth := k9m1) (c := k9c1) (by decide +kernel) rfl rfl rfl (by decide +kernel)
set_option maxRecDepth 65536 in
theorem w_c26 : (Jvm.Cond.code ({ cls := "java/lang/StringUTF16", name := "newBytesLength", desc := "(I)I" } : Jvm.MethodName) jdk_52_method_3_code (1 : Nat) (Option.some Jvm.ClassFile.FieldType.int)).before args0 about1 = true := code_word (m := ⟨9, 2⟩) (meth := k9m2) (c := k9c2) (by decide +kernel) rfl rfl rfl (by decide +kernel)
def codes1 : List Jvm.Cond := [Jvm.Cond.code x code maxLocals ret, Jvm.Cond.code ({ cls := "java/lang/String", name := "<init>", desc := "([C)V" } : Jvm.MethodName) jdk_42_method_3_code (2 : Nat) (Option.none : Option Jvm.ClassFile.FieldType), Jvm.Cond.code ({ cls := "java/lang/String", name := "<init>", desc := "([CIILjava/lang/Void;)V" } : Jvm.MethodName) jdk_42_method_149_code (6 : Nat) (Option.none : Option Jvm.ClassFile.FieldType), Jvm.Cond.code ({ cls := "java/lang/Object", name := "<init>", desc := "()V" } : Jvm.MethodName) object_method_1_code (1 : Nat) (Option.none : Option Jvm.ClassFile.FieldType), Jvm.Cond.code ({ cls := "java/lang/StringUTF16", name := "compress", desc := "([CII)[B" } : Jvm.MethodName) jdk_52_method_16_code (6 : Nat) (Option.some (Jvm.ClassFile.FieldType.array Jvm.ClassFile.FieldType.byte)), Jvm.Cond.code ({ cls := "java/lang/StringUTF16", name := "compress", desc := "([CI[BII)I" } : Jvm.MethodName) jdk_52_method_21_code (7 : Nat) (Option.some Jvm.ClassFile.FieldType.int), Jvm.Cond.code ({ cls := "java/lang/StringUTF16", name := "coderFromArrayLen", desc := "([BI)B" } : Jvm.MethodName) jdk_52_method_15_code (2 : Nat) (Option.some Jvm.ClassFile.FieldType.byte), Jvm.Cond.code ({ cls := "com/example/orderd/orderd/provider/Reply", name := "<init>", desc := "(ILjava/lang/String;Ljava/lang/String;)V" } : Jvm.MethodName) prog_29_method_1_code (4 : Nat) (Option.none : Option Jvm.ClassFile.FieldType), Jvm.Cond.code ({ cls := "java/lang/String", name := "getBytes", desc := "(Ljava/nio/charset/Charset;)[B" } : Jvm.MethodName) jdk_42_method_64_code (2 : Nat) (Option.some (Jvm.ClassFile.FieldType.array Jvm.ClassFile.FieldType.byte)), Jvm.Cond.code ({ cls := "java/lang/String", name := "coder", desc := "()B" } : Jvm.MethodName) jdk_42_method_152_code (1 : Nat) (Option.some Jvm.ClassFile.FieldType.byte), Jvm.Cond.code ({ cls := "java/lang/String", name := "encode", desc := "(Ljava/nio/charset/Charset;B[B)[B" } : Jvm.MethodName) jdk_42_method_18_code (3 : Nat) (Option.some (Jvm.ClassFile.FieldType.array Jvm.ClassFile.FieldType.byte)), Jvm.Cond.code ({ cls := "java/lang/String", name := "encodeUTF8", desc := "(B[BZ)[B" } : Jvm.MethodName) jdk_42_method_46_code (9 : Nat) (Option.some (Jvm.ClassFile.FieldType.array Jvm.ClassFile.FieldType.byte)), Jvm.Cond.code ({ cls := "java/lang/StringCoding", name := "hasNegatives", desc := "([BII)Z" } : Jvm.MethodName) jdk_123_method_2_code (3 : Nat) (Option.some Jvm.ClassFile.FieldType.boolean), Jvm.Cond.code ({ cls := "java/lang/StringCoding", name := "countPositives", desc := "([BII)I" } : Jvm.MethodName) jdk_123_method_3_code (5 : Nat) (Option.some Jvm.ClassFile.FieldType.int), Jvm.Cond.code ({ cls := "com/example/orderd/orderd/provider/Notice", name := "badRequest", desc := "(Lcom/example/orderd/orderd/provider/Reply;Ljava/lang/String;)Lcom/example/orderd/orderd/provider/Notice;" } : Jvm.MethodName) prog_26_method_5_code (2 : Nat) (Option.some (Jvm.ClassFile.FieldType.object "com/example/orderd/orderd/provider/Notice")), Jvm.Cond.code ({ cls := "com/example/orderd/orderd/provider/Notice", name := "<init>", desc := "(Lcom/example/orderd/orderd/order/Order;ZLjava/lang/String;Lcom/example/orderd/orderd/provider/Reply;Lcom/example/orderd/orderd/order/Rejection;Ljava/lang/String;Z)V" } : Jvm.MethodName) prog_26_method_1_code (8 : Nat) (Option.none : Option Jvm.ClassFile.FieldType), Jvm.Cond.code ({ cls := "com/example/orderd/orderd/provider/Notice", name := "isRefused", desc := "()Z" } : Jvm.MethodName) prog_26_method_9_code (1 : Nat) (Option.some Jvm.ClassFile.FieldType.boolean), Jvm.Cond.code ({ cls := "com/example/orderd/orderd/provider/Notice", name := "isBadRequest", desc := "()Z" } : Jvm.MethodName) prog_26_method_10_code (1 : Nat) (Option.some Jvm.ClassFile.FieldType.boolean), Jvm.Cond.code ({ cls := "com/example/orderd/orderd/provider/Notice", name := "isRejected", desc := "()Z" } : Jvm.MethodName) prog_26_method_11_code (1 : Nat) (Option.some Jvm.ClassFile.FieldType.boolean), Jvm.Cond.code ({ cls := "com/example/orderd/orderd/provider/Notice", name := "isRefund", desc := "()Z" } : Jvm.MethodName) prog_26_method_12_code (1 : Nat) (Option.some Jvm.ClassFile.FieldType.boolean), Jvm.Cond.code ({ cls := "com/example/orderd/orderd/provider/Notice", name := "order", desc := "()Lcom/example/orderd/orderd/order/Order;" } : Jvm.MethodName) prog_26_method_13_code (1 : Nat) (Option.some (Jvm.ClassFile.FieldType.object "com/example/orderd/orderd/order/Order")), Jvm.Cond.code ({ cls := "com/example/orderd/orderd/provider/Notice", name := "sign", desc := "()Ljava/lang/String;" } : Jvm.MethodName) prog_26_method_14_code (1 : Nat) (Option.some (Jvm.ClassFile.FieldType.object "java/lang/String")), Jvm.Cond.code ({ cls := "com/example/orderd/orderd/provider/Notice", name := "refusal", desc := "()Lcom/example/orderd/orderd/provider/Reply;" } : Jvm.MethodName) prog_26_method_15_code (1 : Nat) (Option.some (Jvm.ClassFile.FieldType.object "com/example/orderd/orderd/provider/Reply")), Jvm.Cond.code ({ cls := "com/example/orderd/orderd/provider/Notice", name := "rejection", desc := "()Lcom/example/orderd/orderd/order/Rejection;" } : Jvm.MethodName) prog_26_method_16_code (1 : Nat) (Option.some (Jvm.ClassFile.FieldType.object "com/example/orderd/orderd/order/Rejection")), Jvm.Cond.code ({ cls := "com/example/orderd/orderd/provider/Notice", name := "reason", desc := "()Ljava/lang/String;" } : Jvm.MethodName) prog_26_method_17_code (1 : Nat) (Option.some (Jvm.ClassFile.FieldType.object "java/lang/String")), Jvm.Cond.code ({ cls := "java/lang/StringUTF16", name := "newBytesFor", desc := "(I)[B" } : Jvm.MethodName) jdk_52_method_2_code (1 : Nat) (Option.some (Jvm.ClassFile.FieldType.array Jvm.ClassFile.FieldType.byte)), Jvm.Cond.code ({ cls := "java/lang/StringUTF16", name := "newBytesLength", desc := "(I)I" } : Jvm.MethodName) jdk_52_method_3_code (1 : Nat) (Option.some Jvm.ClassFile.FieldType.int)]
set_option maxRecDepth 65536 in
theorem codes_eq : words1.filter isCode = codes1 := rfl
theorem w_codes : ∀ c ∈ words1.filter isCode, c.before args0 about1 = true := by
  rw [codes_eq]
  intro c hc
  simp only [codes1, List.mem_cons, List.not_mem_nil, or_false] at hc
  rcases hc with rfl | rfl | rfl | rfl | rfl | rfl | rfl | rfl | rfl | rfl | rfl | rfl | rfl | rfl | rfl | rfl | rfl | rfl | rfl | rfl | rfl | rfl | rfl | rfl | rfl | rfl | rfl
  · exact w_c0
  · exact w_c1
  · exact w_c2
  · exact w_c3
  · exact w_c4
  · exact w_c5
  · exact w_c6
  · exact w_c7
  · exact w_c8
  · exact w_c9
  · exact w_c10
  · exact w_c11
  · exact w_c12
  · exact w_c13
  · exact w_c14
  · exact w_c15
  · exact w_c16
  · exact w_c17
  · exact w_c18
  · exact w_c19
  · exact w_c20
  · exact w_c21
  · exact w_c22
  · exact w_c23
  · exact w_c24
  · exact w_c25
  · exact w_c26
set_option maxRecDepth 65536 in
theorem w_t1 : (words1.take 24).all (fun c => isCode c || c.before args0 about1) = true := by decide +kernel
set_option maxRecDepth 65536 in
theorem w_t2 : ((words1.drop 24).take 24).all (fun c => isCode c || c.before args0 about1) = true := by decide +kernel
set_option maxRecDepth 65536 in
theorem w_t3 : (((words1.drop 24).drop 24).take 24).all (fun c => isCode c || c.before args0 about1) = true := by decide +kernel
set_option maxRecDepth 65536 in
theorem w_t4 : ((((words1.drop 24).drop 24).drop 24).take 24).all (fun c => isCode c || c.before args0 about1) = true := by decide +kernel
set_option maxRecDepth 65536 in
theorem w_t5 : (((((words1.drop 24).drop 24).drop 24).drop 24).take 24).all (fun c => isCode c || c.before args0 about1) = true := by decide +kernel
set_option maxRecDepth 65536 in
theorem w_t6 : ((((((words1.drop 24).drop 24).drop 24).drop 24).drop 24).take 24).all (fun c => isCode c || c.before args0 about1) = true := by decide +kernel
set_option maxRecDepth 65536 in
theorem w_t7 : ((((((words1.drop 24).drop 24).drop 24).drop 24).drop 24).drop 24).all (fun c => isCode c || c.before args0 about1) = true := by decide +kernel
theorem w_tables : (allAtoms (Jvm.Cond.code x code maxLocals ret :: tables_1)).before args0 about1 = true := by
  rw [allAtoms_all]
  show words1.all (fun c => c.before args0 about1) = true
  refine all_split ?_ w_codes
  rw [← List.take_append_drop 24 words1, List.all_append, w_t1, ← List.take_append_drop 24 (words1.drop 24), List.all_append, w_t2, ← List.take_append_drop 24 ((words1.drop 24).drop 24), List.all_append, w_t3, ← List.take_append_drop 24 (((words1.drop 24).drop 24).drop 24), List.all_append, w_t4, ← List.take_append_drop 24 ((((words1.drop 24).drop 24).drop 24).drop 24), List.all_append, w_t5, ← List.take_append_drop 24 (((((words1.drop 24).drop 24).drop 24).drop 24).drop 24), List.all_append, w_t6, w_t7]
  rfl
set_option maxRecDepth 65536 in
theorem w_rest : rest_1_c.before args0 about1 = true := by decide +kernel
set_option maxRecDepth 65536 in
theorem w_case : (Jvm.Cond.and given_1 narrow_1).before args0 about1 = true := by decide +kernel
theorem w_applies : (headSpec (Jvm.Cond.code x code maxLocals ret :: tables_1) room_1).applies x e0.platform about1 = true :=
  (Spec.applies_iff w_frames).mpr ⟨w_running, w_runnable, w_alone, w_named, w_hears, w_ripe, w_room, w_tables⟩
theorem atStart : AtStart classFile x code maxLocals ret World_1 tables_1 room_1 Calls_1 rest_1 Pre_1 launch0 p0 e0 about1 theMethod args0 below0 :=
  ⟨lists_1, trivial, launch0.admits_env _ _ _, launch0.least_env, fairChoices_fair.cas, fairChoices_fair.clock, w_frames, w_args, w_heap, w_applies, trivial, w_rest, w_case⟩
end start1
theorem witness_1 : WitnessClaimed_1 := ⟨start1.p0, start1.e0, start1.about1, start1.theMethod, start1.args0, start1.below0, start1.atStart⟩
end Jvm.Pilot.@@N@@
