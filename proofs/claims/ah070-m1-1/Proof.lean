import JvmDerived
import JvmDerived.Pilot.@@N@@Statement
import JvmDerived.Pilot.@@N@@Code
set_option linter.unusedVariables false
set_option linter.unusedSimpArgs false
namespace Jvm.RoadKit
open Sem ClassFile Op Lib Jvm.Stand Jvm.Free Jvm.LawKit
section New
variable {p : Program} {l : Launch} {e : Env} {R : Room} {s : State} {m : MethodId} {args : Array Value} {below : List Frame} {meth : Method} {c : Code} {T : State} {locs : List Loc} {cells slots : Nat}
theorem retI (X : Stand p l e R s m args below meth c T locs cells slots) (hx : p.tables.exec = Jvm.exec) {pc : Nat} {Ls : Array Slot} {z : Int32} {rest : List Value} (hret : meth.sig.returnType = some .int) (hd : decode c.code pc = .ok (.ireturn, 1)) {fs : List Frame}
    (hl : ∀ (f : JFrame) (acts : List Action), f.method = m → f.locked = none → f.entered = [] → (doReturn e (T.setTop f) acts (some (.int z))).1 = T.setFrames fs) : Steps p.tables e below (T.setTop (mkF m pc Ls (.int z :: rest))) (T.setFrames fs) := by
  have hm' : T.vm.method? m = some meth := X.method'
  have hn : narrow .int (.int z) = .int z := rfl
  show Steps p.tables e below (T.setTop { method := m, pc := pc, locals := Ls, stack := _ :: rest, locked := none }) _
  jvm_step X.here [X.here.top, hx, hd, hm', hret, hn]
  first | (intro acts; rw [hl _ acts rfl rfl rfl]) | rw [hl _ _ rfl rfl rfl]
  exact Steps.refl _
end New
/-- from this state a run goes on to an end that meets K -/
def Good (p : Program) (e : Env) (below : List Frame) (K : Outcome → State → Prop) (S : State) : Prop := ∃ s₂ o, Steps p.tables e below S s₂ ∧ s₂.status = .running ∧ Ended s₂ below o ∧ K o s₂
theorem Good.back {p : Program} {e : Env} {below : List Frame} {K : Outcome → State → Prop} {S S' : State} (h : ∀ t, Steps p.tables e below S' t → Steps p.tables e below S t) (g : Good p e below K S') : Good p e below K S := by
  obtain ⟨t, o, h1, h2⟩ := g
  exact ⟨t, o, h t h1, h2⟩
theorem Good.done {p : Program} {e : Env} {below : List Frame} {K : Outcome → State → Prop} {S t : State} {o : Outcome} (h1 : Steps p.tables e below S t) (h2 : t.status = .running) (h3 : Ended t below o) (h4 : K o t) : Good p e below K S := ⟨t, o, h1, h2, h3, h4⟩
end Jvm.RoadKit
namespace Jvm.Pilot.@@N@@
open Jvm Jvm.ClassFile Sem Op Lib Jvm.Free Jvm.Stand Jvm.LawKit Jvm.RoadKit Bundle Jvm.Pilot.@@N@@.Jvm.D
theorem own_neI {args : Array Value} {first s : State} {o : Option Outcome} {idx : List Nat} {a : Term} {x k : Int32} (h : (Jvm.Cond.eq a (Term.int k)).value args first o s idx = some (!true)) (ha : a.eval args first o idx s = some (.int x)) : ¬ (x = k) := by
  intro q
  have hb : (Term.int k).eval args first o idx s = some (.int k) := rfl
  simp [Jvm.Cond.value, ha, hb, q] at h
theorem own_staKeep {Z : State} {h h' : Heap} {C n d : String} {v : Value} {ws : List Addr} (F : Sta Z h C n d v) (K : Keep h h' ws) (q : ∀ x ∈ ws, ∀ c : Cell, h[x]? = some c → c.vm.isStatics = false) : Sta Z h' C n d v := by
  obtain ⟨cf, i, k, f, st, cell, h1, h2, h3, h4, h5, h6, h7⟩ := F
  refine ⟨cf, i, k, f, st, cell, h1, h2, h3, h4, K.2.1 st cell h5 (fun hm => ?_), h6, h7⟩
  have := q st hm cell h5
  rw [this] at h6
  cases h6
theorem own_plainE {Z : State} {h : Heap} {x : Addr} {C : String} (E : Exa Z h x C) : ∀ c : Cell, h[x]? = some c → c.vm.isStatics = false := by
  obtain ⟨cell, k, h1, h2, h3, h4, h5⟩ := E
  intro c hc
  rw [h1] at hc
  cases hc
  exact h4
theorem own_plainV {Z : State} {h : Heap} {a : Addr} {k : ClassId} {ty : FieldType} {z : Int32} {vs : List Value} {d : Value} (F : Arv Z h a k ty z vs d) : ∀ c : Cell, h[a]? = some c → c.vm.isStatics = false := by
  obtain ⟨cell, A, -⟩ := F
  intro c hc
  rw [A.1] at hc
  cases hc
  exact A.plain

theorem own_charN (x : Int32) : ¬ ((255 : Int32) < nar .char ((x &&& (255 : Int32)).toUInt32.toUInt16.toUInt32.toInt32)) := by
  rw [i2c_mask]
  show ¬ ((255 : Int32) < (x &&& 255).toUInt32.toUInt16.toUInt32.toInt32)
  rw [i2c_mask, Int32.lt_iff_toInt_lt]
  have h := (c_and x 255 (by decide)).2
  exact Int.not_lt.mpr h
theorem own_m2 (x : Int32) : (x &&& 1).toInt = x.toInt % 2 := c_mask x 1 1 (by decide) (by decide)
theorem own_and1 (x : Int32) : (x &&& 1 = 0) ↔ x.toInt % 2 = 0 := by
  rw [← Int32.toInt_inj, own_m2]; exact Iff.rfl
theorem own_set (x : Int32) : ¬ ((x ||| 1) &&& 1 = 0) := by
  intro q
  have h := congrArg (fun z : Int32 => z.toBitVec.getLsbD 0) q
  simp at h
theorem own_clear (x : Int32) : ((x &&& (-2)) &&& 1 = 0) := by
  rw [Int32.and_assoc]
  have : ((-2 : Int32) &&& 1) = 0 := by decide
  rw [this]; simp
theorem own_odd (x : Int32) : (x % 2 = 0) ↔ (x &&& 1 = 0) := by
  rw [own_and1, ← Int32.toInt_inj]
  have h := c_irem x 2 2 rfl
  have z : (0 : Int32).toInt = 0 := rfl
  rw [z]
  by_cases hx : 0 ≤ x.toInt
  · rw [h.1 hx]
  · rw [h.2 (by omega)]; omega
theorem own_flip (x y : Int32) : ((x ^^^ (y &&& (-2))) &&& 1 = 0) ↔ (x &&& 1 = 0) := by
  rw [own_and1, own_and1, c_xor2]
  have h := (own_and1 _).mp (own_clear y)
  omega
theorem own_pn0 : plainName "java/lang/StringUTF16" = true := by first | (simp [plainName, overriddenIn]; done) | decide +kernel
theorem own_d5_0 : decode jdk_52_method_21_code 0 = .ok (.iconst 0, 1) := by decide +kernel
theorem own_d5_1 : decode jdk_52_method_21_code 1 = .ok (.istore 5, 2) := by decide +kernel
theorem own_d5_3 : decode jdk_52_method_21_code 3 = .ok (.iload 5, 2) := by decide +kernel
theorem own_d5_5 : decode jdk_52_method_21_code 5 = .ok (.iload 4, 2) := by decide +kernel
theorem own_d5_7 : decode jdk_52_method_21_code 7 = .ok (.if_icmp .ge 37, 3) := by decide +kernel
theorem own_d5_10 : decode jdk_52_method_21_code 10 = .ok (.aload_n 0, 1) := by decide +kernel
theorem own_d5_11 : decode jdk_52_method_21_code 11 = .ok (.iload_n 1, 1) := by decide +kernel
theorem own_d5_12 : decode jdk_52_method_21_code 12 = .ok (.caload, 1) := by decide +kernel
theorem own_d5_13 : decode jdk_52_method_21_code 13 = .ok (.istore 6, 2) := by decide +kernel
theorem own_d5_15 : decode jdk_52_method_21_code 15 = .ok (.iload 6, 2) := by decide +kernel
theorem own_d5_17 : decode jdk_52_method_21_code 17 = .ok (.sipush 255, 3) := by decide +kernel
theorem own_d5_20 : decode jdk_52_method_21_code 20 = .ok (.if_icmp .le 6, 3) := by decide +kernel
theorem own_d5_26 : decode jdk_52_method_21_code 26 = .ok (.aload_n 2, 1) := by decide +kernel
theorem own_d5_27 : decode jdk_52_method_21_code 27 = .ok (.iload_n 3, 1) := by decide +kernel
theorem own_d5_28 : decode jdk_52_method_21_code 28 = .ok (.iload 6, 2) := by decide +kernel
theorem own_d5_30 : decode jdk_52_method_21_code 30 = .ok (.i2b, 1) := by decide +kernel
theorem own_d5_31 : decode jdk_52_method_21_code 31 = .ok (.bastore, 1) := by decide +kernel
theorem own_d5_32 : decode jdk_52_method_21_code 32 = .ok (.iinc 1 1, 3) := by decide +kernel
theorem own_d5_35 : decode jdk_52_method_21_code 35 = .ok (.iinc 3 1, 3) := by decide +kernel
theorem own_d5_38 : decode jdk_52_method_21_code 38 = .ok (.iinc 5 1, 3) := by decide +kernel
theorem own_d5_41 : decode jdk_52_method_21_code 41 = .ok (.goto (-38), 3) := by decide +kernel
theorem own_d5_44 : decode jdk_52_method_21_code 44 = .ok (.iload 4, 2) := by decide +kernel
theorem own_d5_46 : decode jdk_52_method_21_code 46 = .ok (.ireturn, 1) := by decide +kernel
theorem own_ef_5n1 (m : MethodId) (x0 : Addr) (x1 : Int32) (x2 : Addr) (x3 : Int32) (x4 : Int32) : entryFrame m #[(.ref x0), (.int x1), (.ref x2), (.int x3), (.int x4)] 7 = mkF m 0 #[.val (.ref x0), .val (.int x1), .val (.ref x2), .val (.int x3), .val (.int x4), .unset, .unset] [] := by first | (simp [entryFrame, mkF, argsToLocals, Value.category]; done) | rfl
def Q5n1 (Z : State) (r0 : Addr) (r2 : Addr) (kc : ClassId) (c0 : Int32) (kb : ClassId) (h0 : Heap) (n0 : Nat) (v : Option Value) (h : Heap) (L : List Loc) : Prop := v = some (.int (1 : Int32)) ∧ Fr n0 L ∧ Keep h0 h [r2] ∧ Arv Z h r2 kb .byte (1 : Int32) [(.int (c0.toInt8.toInt32).toInt8.toInt32)] (.int (0 : Int32))
set_option maxRecDepth 65536 in
set_option maxHeartbeats 40000000 in
theorem rm5n1 (l : Launch) (Z : State) (a0 : Array Value) (hw : ∀ d ∈ tables_1, d.before a0 Z = true) (ws : List Jvm.Cond) (r0 : Addr) (r2 : Addr) (kc : ClassId) (c0 : Int32) (kb : ClassId) (h0 : Heap) (n0 : Nat) (Z0 : n0 ≤ h0.size) (VC : Arv Z h0 r0 kc .char (1 : Int32) [(.int c0)] (.int (0 : Int32))) (VB : Arv Z h0 r2 kb .byte (1 : Int32) [(.int (0 : Int32))] (.int (0 : Int32))) (g2 : n0 ≤ r2) (hne : r0 ≠ r2) (hle0 : ¬ ((255 : Int32) < c0)) :
    MetFree l (⟨"java/lang/StringUTF16", "compress", "([CI[BII)I"⟩ : MethodName) (head1 (Jvm.Cond.code (⟨"java/lang/StringUTF16", "compress", "([CI[BII)I"⟩ : MethodName) jdk_52_method_21_code 7 (some .int) :: ws) ({ frames := 0, cells := 0, slots := 0, locals := 0 } : Room)) (fun a U => a = #[(.ref r0), (.int (0 : Int32)), (.ref r2), (.int (0 : Int32)), (.int (1 : Int32))] ∧ Z.Warmed39 U.vm ∧ U.heap = h0) (fun _ _ _ _ _ => True) (fun _ U o U' => ∃ v L, o = .returned v ∧ Q5n1 Z r0 r2 kc c0 kb h0 n0 v U'.heap L ∧ FrameEnd U o U' L ({ frames := 0, cells := 0, slots := 0, locals := 0 } : Room).cells ({ frames := 0, cells := 0, slots := 0, locals := 0 } : Room).slots) := by
  refine MetFree.of_bodySF (plainFor_of_name own_pn0) hisR ?_
  intro p e s m args below meth c s₁ Bd hml0 hP hK
  obtain ⟨rfl, hZ, hh⟩ := hP
  have hx := Bd.exec
  have hby := Bd.bytes
  have hml : c.maxLocals = 7 := hml0
  have hown : s.vm.findClass "java/lang/StringUTF16" = some m.cls := findClass_of_methodNamed Bd.named
  have hnm := (name_of_methodNamed Bd.named Bd.method).1
  have X0 : Stand p l e ({ frames := 0, cells := 0, slots := 0, locals := 0 } : Room) s m #[(.ref r0), (.int (0 : Int32)), (.ref r2), (.int (0 : Int32)), (.int (1 : Int32))] below meth c s₁ [] 0 0 := Stand.of_body Bd
  have e0 : s₁.heap = h0 := by rw [← hh, Bd.state]; rfl
  have N0 := Fr.nil n0
  have KR : Keep h0 h0 [r2] := Keep.refl h0 _
  show Good p e below (fun o U' => ∃ v L, o = .returned v ∧ Q5n1 Z r0 r2 kc c0 kb h0 n0 v U'.heap L ∧ FrameEnd s o U' L ({ frames := 0, cells := 0, slots := 0, locals := 0 } : Room).cells ({ frames := 0, cells := 0, slots := 0, locals := 0 } : Room).slots) _
  refine Good.back (S' := s₁.setTop (mkF m 0 #[.val (.ref r0), .val (.int (0 : Int32)), .val (.ref r2), .val (.int (0 : Int32)), .val (.int (1 : Int32)), .unset, .unset] [])) (fun t k => castTop (own_ef_5n1 m r0 (0 : Int32) r2 (0 : Int32) (1 : Int32)) k) ?_
  show Good p e below _ (s₁.setTop (mkF m 0 #[.val (.ref r0), .val (.int (0 : Int32)), .val (.ref r2), .val (.int (0 : Int32)), .val (.int (1 : Int32)), .unset, .unset] []))
  refine Good.back (fun _ k => XS.iconst X0.here hx rfl (hb hby own_d5_0) k) ?_
  show Good p e below _ (s₁.setTop (mkF m 1 #[.val (.ref r0), .val (.int (0 : Int32)), .val (.ref r2), .val (.int (0 : Int32)), .val (.int (1 : Int32)), .unset, .unset] [(.int (0 : Int32))]))
  refine Good.back (fun _ k => XS.istore X0.here hx rfl (hb hby own_d5_1) rfl (l' := #[.val (.ref r0), .val (.int (0 : Int32)), .val (.ref r2), .val (.int (0 : Int32)), .val (.int (1 : Int32)), .val (.int (0 : Int32)), .unset]) rfl k) ?_
  show Good p e below _ (s₁.setTop (mkF m 3 #[.val (.ref r0), .val (.int (0 : Int32)), .val (.ref r2), .val (.int (0 : Int32)), .val (.int (1 : Int32)), .val (.int (0 : Int32)), .unset] []))
  refine Good.back (fun _ k => XS.iload X0.here hx rfl (hb hby own_d5_3) rfl k) ?_
  show Good p e below _ (s₁.setTop (mkF m 5 #[.val (.ref r0), .val (.int (0 : Int32)), .val (.ref r2), .val (.int (0 : Int32)), .val (.int (1 : Int32)), .val (.int (0 : Int32)), .unset] [(.int (0 : Int32))]))
  refine Good.back (fun _ k => XS.iload X0.here hx rfl (hb hby own_d5_5) rfl k) ?_
  show Good p e below _ (s₁.setTop (mkF m 7 #[.val (.ref r0), .val (.int (0 : Int32)), .val (.ref r2), .val (.int (0 : Int32)), .val (.int (1 : Int32)), .val (.int (0 : Int32)), .unset] [(.int (1 : Int32)), (.int (0 : Int32))]))
  refine Good.back (fun _ k => XS.icmpNo X0.here hx rfl (hb hby own_d5_7) rfl (tlt (by decide : ((0 : Int32) < (1 : Int32)))).2.1 k) ?_
  show Good p e below _ (s₁.setTop (mkF m 10 #[.val (.ref r0), .val (.int (0 : Int32)), .val (.ref r2), .val (.int (0 : Int32)), .val (.int (1 : Int32)), .val (.int (0 : Int32)), .unset] []))
  refine Good.back (fun _ k => XS.aloadN X0.here hx rfl (hb hby own_d5_10) rfl rfl k) ?_
  show Good p e below _ (s₁.setTop (mkF m 11 #[.val (.ref r0), .val (.int (0 : Int32)), .val (.ref r2), .val (.int (0 : Int32)), .val (.int (1 : Int32)), .val (.int (0 : Int32)), .unset] [(.ref r0)]))
  refine Good.back (fun _ k => XS.iloadN X0.here hx rfl (hb hby own_d5_11) rfl k) ?_
  show Good p e below _ (s₁.setTop (mkF m 12 #[.val (.ref r0), .val (.int (0 : Int32)), .val (.ref r2), .val (.int (0 : Int32)), .val (.int (1 : Int32)), .val (.int (0 : Int32)), .unset] [(.int (0 : Int32)), (.ref r0)]))
  have fc1 := VC
  obtain ⟨cl1, Ar1, qk1, S1, N1', H1, G1⟩ := fc1
  have hin1 : ¬ ((0 : Int32) < 0 ∨ cl1.slots.size ≤ ((0 : Int32)).toNatClampNeg) := inb_of S1 ⟨by decide, by decide⟩
  have hat1 : cl1.slots[((0 : Int32)).toNatClampNeg]? = some (.int c0) := Has.at H1 hin1 rfl
  refine Good.back (X0.caload hx (j := (0 : Int32)) (v := (.int c0)) (by rw [e0]; exact Ar1.1) (State.isArrayOf_alike hZ.alike Ar1.2.1) Ar1.2.2 hin1 hat1 (g := (mkF m 12 #[.val (.ref r0), .val (.int (0 : Int32)), .val (.ref r2), .val (.int (0 : Int32)), .val (.int (1 : Int32)), .val (.int (0 : Int32)), .unset] [(.int (0 : Int32)), (.ref r0)])) rfl rfl (hb hby own_d5_12)) ?_
  show Good p e below _ (s₁.setTop (mkF m 13 #[.val (.ref r0), .val (.int (0 : Int32)), .val (.ref r2), .val (.int (0 : Int32)), .val (.int (1 : Int32)), .val (.int (0 : Int32)), .unset] [(.int c0)]))
  refine Good.back (fun _ k => XS.istore X0.here hx rfl (hb hby own_d5_13) rfl (l' := #[.val (.ref r0), .val (.int (0 : Int32)), .val (.ref r2), .val (.int (0 : Int32)), .val (.int (1 : Int32)), .val (.int (0 : Int32)), .val (.int c0)]) rfl k) ?_
  show Good p e below _ (s₁.setTop (mkF m 15 #[.val (.ref r0), .val (.int (0 : Int32)), .val (.ref r2), .val (.int (0 : Int32)), .val (.int (1 : Int32)), .val (.int (0 : Int32)), .val (.int c0)] []))
  refine Good.back (fun _ k => XS.iload X0.here hx rfl (hb hby own_d5_15) rfl k) ?_
  show Good p e below _ (s₁.setTop (mkF m 17 #[.val (.ref r0), .val (.int (0 : Int32)), .val (.ref r2), .val (.int (0 : Int32)), .val (.int (1 : Int32)), .val (.int (0 : Int32)), .val (.int c0)] [(.int c0)]))
  refine Good.back (fun _ k => XS.sipush X0.here hx rfl (hb hby own_d5_17) k) ?_
  show Good p e below _ (s₁.setTop (mkF m 20 #[.val (.ref r0), .val (.int (0 : Int32)), .val (.ref r2), .val (.int (0 : Int32)), .val (.int (1 : Int32)), .val (.int (0 : Int32)), .val (.int c0)] [(.int (255 : Int32)), (.int c0)]))
  refine Good.back (fun _ k => XS.icmpYes X0.here hx rfl (pc0 := 20) (pc' := 26) rfl (hb hby own_d5_20) rfl (flt hle0).2.2.2 (by decide) (by decide) k) ?_
  show Good p e below _ (s₁.setTop (mkF m 26 #[.val (.ref r0), .val (.int (0 : Int32)), .val (.ref r2), .val (.int (0 : Int32)), .val (.int (1 : Int32)), .val (.int (0 : Int32)), .val (.int c0)] []))
  refine Good.back (fun _ k => XS.aloadN X0.here hx rfl (hb hby own_d5_26) rfl rfl k) ?_
  show Good p e below _ (s₁.setTop (mkF m 27 #[.val (.ref r0), .val (.int (0 : Int32)), .val (.ref r2), .val (.int (0 : Int32)), .val (.int (1 : Int32)), .val (.int (0 : Int32)), .val (.int c0)] [(.ref r2)]))
  refine Good.back (fun _ k => XS.iloadN X0.here hx rfl (hb hby own_d5_27) rfl k) ?_
  show Good p e below _ (s₁.setTop (mkF m 28 #[.val (.ref r0), .val (.int (0 : Int32)), .val (.ref r2), .val (.int (0 : Int32)), .val (.int (1 : Int32)), .val (.int (0 : Int32)), .val (.int c0)] [(.int (0 : Int32)), (.ref r2)]))
  refine Good.back (fun _ k => XS.iload X0.here hx rfl (hb hby own_d5_28) rfl k) ?_
  show Good p e below _ (s₁.setTop (mkF m 30 #[.val (.ref r0), .val (.int (0 : Int32)), .val (.ref r2), .val (.int (0 : Int32)), .val (.int (1 : Int32)), .val (.int (0 : Int32)), .val (.int c0)] [(.int c0), (.int (0 : Int32)), (.ref r2)]))
  refine Good.back (fun _ k => XS.i2b X0.here hx rfl (hb hby own_d5_30) rfl k) ?_
  show Good p e below _ (s₁.setTop (mkF m 31 #[.val (.ref r0), .val (.int (0 : Int32)), .val (.ref r2), .val (.int (0 : Int32)), .val (.int (1 : Int32)), .val (.int (0 : Int32)), .val (.int c0)] [(.int (c0.toInt8.toInt32)), (.int (0 : Int32)), (.ref r2)]))
  have fc2 := VB
  obtain ⟨cl2, Ar2, qk2, S2, N2', H2, G2⟩ := fc2
  have hin2 : ¬ ((0 : Int32) < 0 ∨ cl2.slots.size ≤ ((0 : Int32)).toNatClampNeg) := inb_of S2 ⟨by decide, by decide⟩
  obtain ⟨T2, h2, X2, e2, W2, st2⟩ := stB X0 hx hZ e0 Ar2 (j := (0 : Int32)) hin2 (g := (mkF m 31 #[.val (.ref r0), .val (.int (0 : Int32)), .val (.ref r2), .val (.int (0 : Int32)), .val (.int (1 : Int32)), .val (.int (0 : Int32)), .val (.int c0)] [(.int (c0.toInt8.toInt32)), (.int (0 : Int32)), (.ref r2)])) rfl rfl (hb hby own_d5_31)
  refine Good.back st2 ?_
  have f_3 : Arv Z h2 r2 kb .byte (1 : Int32) [(.int (c0.toInt8.toInt32).toInt8.toInt32)] (.int (0 : Int32)) := Arv.set Ar2 qk2 S2 N2' H2 G2 (fits_nar_byte _) W2 0 rfl (Nat.le_of_ble_eq_true rfl)
  have N2 := Fr.snoc X2 N0 g2
  have Z4 : n0 ≤ h2.size := Nat.le_trans Z0 (Keep.of_wr W2).1
  have K5 : Keep h0 h2 [r2] := KR.wr W2 (Or.inl (List.mem_of_getElem? (i := 0) rfl))
  show Good p e below _ (T2.setTop (mkF m 32 #[.val (.ref r0), .val (.int (0 : Int32)), .val (.ref r2), .val (.int (0 : Int32)), .val (.int (1 : Int32)), .val (.int (0 : Int32)), .val (.int c0)] []))
  refine Good.back (fun _ k => XS.iinc X2.here hx rfl (hb hby own_d5_32) rfl (l' := #[.val (.ref r0), .val (.int ((0 : Int32) + (1 : Int32))), .val (.ref r2), .val (.int (0 : Int32)), .val (.int (1 : Int32)), .val (.int (0 : Int32)), .val (.int c0)]) rfl k) ?_
  show Good p e below _ (T2.setTop (mkF m 35 #[.val (.ref r0), .val (.int ((0 : Int32) + (1 : Int32))), .val (.ref r2), .val (.int (0 : Int32)), .val (.int (1 : Int32)), .val (.int (0 : Int32)), .val (.int c0)] []))
  rw [show (((0 : Int32) + (1 : Int32)) : Int32) = (1 : Int32) from by decide]
  show Good p e below _ (T2.setTop (mkF m 35 #[.val (.ref r0), .val (.int (1 : Int32)), .val (.ref r2), .val (.int (0 : Int32)), .val (.int (1 : Int32)), .val (.int (0 : Int32)), .val (.int c0)] []))
  refine Good.back (fun _ k => XS.iinc X2.here hx rfl (hb hby own_d5_35) rfl (l' := #[.val (.ref r0), .val (.int (1 : Int32)), .val (.ref r2), .val (.int ((0 : Int32) + (1 : Int32))), .val (.int (1 : Int32)), .val (.int (0 : Int32)), .val (.int c0)]) rfl k) ?_
  show Good p e below _ (T2.setTop (mkF m 38 #[.val (.ref r0), .val (.int (1 : Int32)), .val (.ref r2), .val (.int ((0 : Int32) + (1 : Int32))), .val (.int (1 : Int32)), .val (.int (0 : Int32)), .val (.int c0)] []))
  rw [show (((0 : Int32) + (1 : Int32)) : Int32) = (1 : Int32) from by decide]
  show Good p e below _ (T2.setTop (mkF m 38 #[.val (.ref r0), .val (.int (1 : Int32)), .val (.ref r2), .val (.int (1 : Int32)), .val (.int (1 : Int32)), .val (.int (0 : Int32)), .val (.int c0)] []))
  refine Good.back (fun _ k => XS.iinc X2.here hx rfl (hb hby own_d5_38) rfl (l' := #[.val (.ref r0), .val (.int (1 : Int32)), .val (.ref r2), .val (.int (1 : Int32)), .val (.int (1 : Int32)), .val (.int ((0 : Int32) + (1 : Int32))), .val (.int c0)]) rfl k) ?_
  show Good p e below _ (T2.setTop (mkF m 41 #[.val (.ref r0), .val (.int (1 : Int32)), .val (.ref r2), .val (.int (1 : Int32)), .val (.int (1 : Int32)), .val (.int ((0 : Int32) + (1 : Int32))), .val (.int c0)] []))
  rw [show (((0 : Int32) + (1 : Int32)) : Int32) = (1 : Int32) from by decide]
  show Good p e below _ (T2.setTop (mkF m 41 #[.val (.ref r0), .val (.int (1 : Int32)), .val (.ref r2), .val (.int (1 : Int32)), .val (.int (1 : Int32)), .val (.int (1 : Int32)), .val (.int c0)] []))
  refine Good.back (fun _ k => XS.goto X2.here hx rfl (pc0 := 41) (pc' := 3) rfl (hb hby own_d5_41) (by decide) (by decide) k) ?_
  show Good p e below _ (T2.setTop (mkF m 3 #[.val (.ref r0), .val (.int (1 : Int32)), .val (.ref r2), .val (.int (1 : Int32)), .val (.int (1 : Int32)), .val (.int (1 : Int32)), .val (.int c0)] []))
  refine Good.back (fun _ k => XS.iload X2.here hx rfl (hb hby own_d5_3) rfl k) ?_
  show Good p e below _ (T2.setTop (mkF m 5 #[.val (.ref r0), .val (.int (1 : Int32)), .val (.ref r2), .val (.int (1 : Int32)), .val (.int (1 : Int32)), .val (.int (1 : Int32)), .val (.int c0)] [(.int (1 : Int32))]))
  refine Good.back (fun _ k => XS.iload X2.here hx rfl (hb hby own_d5_5) rfl k) ?_
  show Good p e below _ (T2.setTop (mkF m 7 #[.val (.ref r0), .val (.int (1 : Int32)), .val (.ref r2), .val (.int (1 : Int32)), .val (.int (1 : Int32)), .val (.int (1 : Int32)), .val (.int c0)] [(.int (1 : Int32)), (.int (1 : Int32))]))
  refine Good.back (fun _ k => XS.icmpYes X2.here hx rfl (pc0 := 7) (pc' := 44) rfl (hb hby own_d5_7) rfl (flt (by decide : ¬ ((1 : Int32) < (1 : Int32)))).2.1 (by decide) (by decide) k) ?_
  show Good p e below _ (T2.setTop (mkF m 44 #[.val (.ref r0), .val (.int (1 : Int32)), .val (.ref r2), .val (.int (1 : Int32)), .val (.int (1 : Int32)), .val (.int (1 : Int32)), .val (.int c0)] []))
  refine Good.back (fun _ k => XS.iload X2.here hx rfl (hb hby own_d5_44) rfl k) ?_
  show Good p e below _ (T2.setTop (mkF m 46 #[.val (.ref r0), .val (.int (1 : Int32)), .val (.ref r2), .val (.int (1 : Int32)), .val (.int (1 : Int32)), .val (.int (1 : Int32)), .val (.int c0)] [(.int (1 : Int32))]))
  obtain ⟨fs6, hr6, hrun6, hended6, hW6, hsame6⟩ := X2.leave (v := some (.int (1 : Int32))) (fun h => by rw [Bd.returns] at h; cases h)
  refine Good.done (retI X2 hx Bd.returns (hb hby own_d5_46) hr6) hrun6 hended6 ⟨_, _, rfl, ?_, ⟨_, rfl⟩, hW6, hsame6.mono (by decide) (by decide)⟩
  show Q5n1 Z r0 r2 kc c0 kb h0 n0 _ T2.heap _
  rw [e2]
  exact ⟨rfl, N2, K5, f_3⟩
theorem own_pd23 : parseMethodDescriptor "([CI[BII)I" = some ⟨[(.array .char), .int, (.array .byte), .int, .int], some .int⟩ := by decide +kernel
theorem own_d4_0 : decode jdk_52_method_16_code 0 = .ok (.iload_n 2, 1) := by decide +kernel
theorem own_d4_1 : decode jdk_52_method_16_code 1 = .ok (.newarray .byte, 2) := by decide +kernel
theorem own_d4_3 : decode jdk_52_method_16_code 3 = .ok (.astore_n 3, 1) := by decide +kernel
theorem own_d4_4 : decode jdk_52_method_16_code 4 = .ok (.aload_n 0, 1) := by decide +kernel
theorem own_d4_5 : decode jdk_52_method_16_code 5 = .ok (.iload_n 1, 1) := by decide +kernel
theorem own_d4_6 : decode jdk_52_method_16_code 6 = .ok (.aload_n 3, 1) := by decide +kernel
theorem own_d4_7 : decode jdk_52_method_16_code 7 = .ok (.iconst 0, 1) := by decide +kernel
theorem own_d4_8 : decode jdk_52_method_16_code 8 = .ok (.iload_n 2, 1) := by decide +kernel
theorem own_d4_9 : decode jdk_52_method_16_code 9 = .ok (.invokestatic 115, 3) := by decide +kernel
theorem own_d4_12 : decode jdk_52_method_16_code 12 = .ok (.istore 4, 2) := by decide +kernel
theorem own_d4_14 : decode jdk_52_method_16_code 14 = .ok (.iload 4, 2) := by decide +kernel
theorem own_d4_16 : decode jdk_52_method_16_code 16 = .ok (.iload_n 2, 1) := by decide +kernel
theorem own_d4_17 : decode jdk_52_method_16_code 17 = .ok (.if_icmp .eq 40, 3) := by decide +kernel
theorem own_d4_57 : decode jdk_52_method_16_code 57 = .ok (.aload_n 3, 1) := by decide +kernel
theorem own_d4_58 : decode jdk_52_method_16_code 58 = .ok (.areturn, 1) := by decide +kernel
theorem own_ef_4n1 (m : MethodId) (x0 : Addr) (x1 : Int32) (x2 : Int32) : entryFrame m #[(.ref x0), (.int x1), (.int x2)] 6 = mkF m 0 #[.val (.ref x0), .val (.int x1), .val (.int x2), .unset, .unset, .unset] [] := by first | (simp [entryFrame, mkF, argsToLocals, Value.category]; done) | rfl
def Q4n1 (Z : State) (r0 : Addr) (kc : ClassId) (c0 : Int32) (h0 : Heap) (n0 : Nat) (v : Option Value) (h : Heap) (L : List Loc) : Prop := ∃ (ar : Addr) (kb : ClassId), v = some (.ref ar) ∧ Fr n0 L ∧ Keep h0 h [] ∧ h0.size ≤ ar ∧ Arv Z h ar kb .byte (1 : Int32) [(.int (c0.toInt8.toInt32).toInt8.toInt32)] (.int (0 : Int32)) ∧ Exa Z h ar "[B"
set_option maxRecDepth 65536 in
set_option maxHeartbeats 40000000 in
theorem rm4n1 (l : Launch) (Z : State) (a0 : Array Value) (hw : ∀ d ∈ tables_1, d.before a0 Z = true) (ws : List Jvm.Cond) (r0 : Addr) (kc : ClassId) (c0 : Int32) (h0 : Heap) (n0 : Nat) (Z0 : n0 ≤ h0.size) (VC : Arv Z h0 r0 kc .char (1 : Int32) [(.int c0)] (.int (0 : Int32))) (hle0 : ¬ ((255 : Int32) < c0)) :
    MetFree l (⟨"java/lang/StringUTF16", "compress", "([CII)[B"⟩ : MethodName) (head1 (Jvm.Cond.code (⟨"java/lang/StringUTF16", "compress", "([CII)[B"⟩ : MethodName) jdk_52_method_16_code 6 (some (.array .byte)) :: ws) ({ frames := 1, cells := 1, slots := 1, locals := 18 } : Room)) (fun a U => a = #[(.ref r0), (.int (0 : Int32)), (.int (1 : Int32))] ∧ Z.Warmed39 U.vm ∧ U.heap = h0) (fun _ _ _ _ _ => True) (fun _ U o U' => ∃ v L, o = .returned v ∧ Q4n1 Z r0 kc c0 h0 n0 v U'.heap L ∧ FrameEnd U o U' L ({ frames := 1, cells := 1, slots := 1, locals := 18 } : Room).cells ({ frames := 1, cells := 1, slots := 1, locals := 18 } : Room).slots) := by
  refine MetFree.of_bodySF (plainFor_of_name own_pn0) hisR ?_
  intro p e s m args below meth c s₁ Bd hml0 hP hK
  obtain ⟨rfl, hZ, hh⟩ := hP
  have hx := Bd.exec
  have hby := Bd.bytes
  have hml : c.maxLocals = 6 := hml0
  have hown : s.vm.findClass "java/lang/StringUTF16" = some m.cls := findClass_of_methodNamed Bd.named
  have hnm := (name_of_methodNamed Bd.named Bd.method).1
  have X0 : Stand p l e ({ frames := 1, cells := 1, slots := 1, locals := 18 } : Room) s m #[(.ref r0), (.int (0 : Int32)), (.int (1 : Int32))] below meth c s₁ [] 0 0 := Stand.of_body Bd
  have e0 : s₁.heap = h0 := by rw [← hh, Bd.state]; rfl
  have N0 := Fr.nil n0
  have KR : Keep h0 h0 [] := Keep.refl h0 _
  show Good p e below (fun o U' => ∃ v L, o = .returned v ∧ Q4n1 Z r0 kc c0 h0 n0 v U'.heap L ∧ FrameEnd s o U' L ({ frames := 1, cells := 1, slots := 1, locals := 18 } : Room).cells ({ frames := 1, cells := 1, slots := 1, locals := 18 } : Room).slots) _
  refine Good.back (S' := s₁.setTop (mkF m 0 #[.val (.ref r0), .val (.int (0 : Int32)), .val (.int (1 : Int32)), .unset, .unset, .unset] [])) (fun t k => castTop (own_ef_4n1 m r0 (0 : Int32) (1 : Int32)) k) ?_
  show Good p e below _ (s₁.setTop (mkF m 0 #[.val (.ref r0), .val (.int (0 : Int32)), .val (.int (1 : Int32)), .unset, .unset, .unset] []))
  refine Good.back (fun _ k => XS.iloadN X0.here hx rfl (hb hby own_d4_0) rfl k) ?_
  show Good p e below _ (s₁.setTop (mkF m 1 #[.val (.ref r0), .val (.int (0 : Int32)), .val (.int (1 : Int32)), .unset, .unset, .unset] [(.int (1 : Int32))]))
  obtain ⟨T1, h1, k1, X1, e1, E1, A1, B1, st1⟩ := newPE X0 hx hZ (hw _ (List.mem_of_getElem? (i := 19) rfl)) e0 (g := (mkF m 1 #[.val (.ref r0), .val (.int (0 : Int32)), .val (.int (1 : Int32)), .unset, .unset, .unset] [(.int (1 : Int32))])) rfl (hb hby own_d4_1) rfl (by decide) (cap := 1) (by decide) (by decide) (by decide) (by decide) (ad := "[B") (by decide +kernel)
  obtain ⟨b1, g1⟩ : ∃ z, z = h0.size := ⟨_, rfl⟩
  rw [← g1] at A1 B1 st1
  refine Good.back st1 ?_
  have g_b1 : n0 ≤ b1 := Nat.le_trans Z0 (Nat.le_of_eq g1.symm)
  have sz_b1 : h0.size ≤ b1 := Nat.le_trans KR.1 (Nat.le_of_eq g1.symm)
  have Z2 : n0 ≤ h1.size := Nat.le_trans Z0 E1.1
  have K3 : Keep h0 h1 [] := KR.ext E1
  have f_4 : Exa Z h1 b1 "[B" := B1
  have f_5 : Arv Z h1 b1 k1 .byte (1 : Int32) [(.int (0 : Int32))] (.int (0 : Int32)) := (Arv.new A1 (by decide)).pad (pad_rep [] (.int (0 : Int32)) 1)
  show Good p e below _ (T1.setTop (mkF m 3 #[.val (.ref r0), .val (.int (0 : Int32)), .val (.int (1 : Int32)), .unset, .unset, .unset] [(.ref b1)]))
  refine Good.back (fun _ k => XS.astoreN X1.here hx rfl (hb hby own_d4_3) rfl rfl (l' := #[.val (.ref r0), .val (.int (0 : Int32)), .val (.int (1 : Int32)), .val (.ref b1), .unset, .unset]) rfl k) ?_
  show Good p e below _ (T1.setTop (mkF m 4 #[.val (.ref r0), .val (.int (0 : Int32)), .val (.int (1 : Int32)), .val (.ref b1), .unset, .unset] []))
  refine Good.back (fun _ k => XS.aloadN X1.here hx rfl (hb hby own_d4_4) rfl rfl k) ?_
  show Good p e below _ (T1.setTop (mkF m 5 #[.val (.ref r0), .val (.int (0 : Int32)), .val (.int (1 : Int32)), .val (.ref b1), .unset, .unset] [(.ref r0)]))
  refine Good.back (fun _ k => XS.iloadN X1.here hx rfl (hb hby own_d4_5) rfl k) ?_
  show Good p e below _ (T1.setTop (mkF m 6 #[.val (.ref r0), .val (.int (0 : Int32)), .val (.int (1 : Int32)), .val (.ref b1), .unset, .unset] [(.int (0 : Int32)), (.ref r0)]))
  refine Good.back (fun _ k => XS.aloadN X1.here hx rfl (hb hby own_d4_6) rfl rfl k) ?_
  show Good p e below _ (T1.setTop (mkF m 7 #[.val (.ref r0), .val (.int (0 : Int32)), .val (.int (1 : Int32)), .val (.ref b1), .unset, .unset] [(.ref b1), (.int (0 : Int32)), (.ref r0)]))
  refine Good.back (fun _ k => XS.iconst X1.here hx rfl (hb hby own_d4_7) k) ?_
  show Good p e below _ (T1.setTop (mkF m 8 #[.val (.ref r0), .val (.int (0 : Int32)), .val (.int (1 : Int32)), .val (.ref b1), .unset, .unset] [(.int (0 : Int32)), (.ref b1), (.int (0 : Int32)), (.ref r0)]))
  refine Good.back (fun _ k => XS.iloadN X1.here hx rfl (hb hby own_d4_8) rfl k) ?_
  show Good p e below _ (T1.setTop (mkF m 9 #[.val (.ref r0), .val (.int (0 : Int32)), .val (.int (1 : Int32)), .val (.ref b1), .unset, .unset] [(.int (1 : Int32)), (.int (0 : Int32)), (.ref b1), (.int (0 : Int32)), (.ref r0)]))
  have f_7 : Arv Z h1 r0 kc .char (1 : Int32) [(.int c0)] (.int (0 : Int32)) := Arv.ext VC E1
  have ne_r0_b1_8 : r0 ≠ b1 := Nat.ne_of_lt (Nat.lt_of_lt_of_le VC.lt (Nat.le_of_eq g1.symm))
  obtain ⟨_, _, ⟨T6, L6, k6, n6⟩, -, X6, ⟨Lc6, hQ6, l6, y6, z6⟩, st6⟩ := Jvm.LawKit.callS X1 hx (y := (⟨"java/lang/StringUTF16", "compress", "([CI[BII)I"⟩ : MethodName)) hown (mvT hZ (hw _ (List.mem_of_getElem? (i := 20) rfl))) (mvT hZ (hw _ (List.mem_of_getElem? (i := 21) rfl))) (mvT hZ (hw _ (List.mem_of_getElem? (i := 17) rfl))) (mvT hZ (hw _ (List.mem_of_getElem? (i := 22) rfl))) (by decide) (backOf (W := 0) (rm5n1 l Z a0 hw [] r0 b1 kc c0 k1 h1 n0 Z2 f_7 f_5 g_b1 ne_r0_b1_8 (by first | assumption | decide)) hZ (hw _ (List.mem_of_getElem? (i := 22) rfl)) (hw _ (List.mem_of_getElem? (i := 17) rfl)) (by decide) (by decide)) (g := (mkF m 9 #[.val (.ref r0), .val (.int (0 : Int32)), .val (.int (1 : Int32)), .val (.ref b1), .unset, .unset] [(.int (1 : Int32)), (.int (0 : Int32)), (.ref b1), (.int (0 : Int32)), (.ref r0)])) rfl (by rw [hml]; rfl) (argsL := [(.ref r0), (.int (0 : Int32)), (.ref b1), (.int (0 : Int32)), (.int (1 : Int32))]) (rest := []) (lenOf own_pd23 rfl) rfl (by show 2 * 0 + _ ≤ _; exact Nat.le_of_eq rfl) (hb hby own_d4_9) (fun _ _ => ⟨rfl, e1, (by decide : 1 + 0 ≤ _), (by decide : 1 + 0 ≤ _)⟩)
  dsimp only [Pt.U, Pt.locs, Pt.cells, Pt.slots] at X6 l6 y6 z6 st6 hQ6
  subst l6 y6 z6
  obtain ⟨rfl, N6q, Kq6, o6_0⟩ := hQ6
  have N6 := Fr.app N0 N6q
  have Z9 : n0 ≤ T6.heap.size := Nat.le_trans Z2 Kq6.1
  have K10 : Keep h0 T6.heap [] := K3.trans Kq6 (allS (Or.inr sz_b1) all0)
  refine Good.back st6 ?_
  show Good p e below _ (T6.setTop (mkF m 12 #[.val (.ref r0), .val (.int (0 : Int32)), .val (.int (1 : Int32)), .val (.ref b1), .unset, .unset] [(.int (1 : Int32))]))
  refine Good.back (fun _ k => XS.istore X6.here hx rfl (hb hby own_d4_12) rfl (l' := #[.val (.ref r0), .val (.int (0 : Int32)), .val (.int (1 : Int32)), .val (.ref b1), .val (.int (1 : Int32)), .unset]) rfl k) ?_
  show Good p e below _ (T6.setTop (mkF m 14 #[.val (.ref r0), .val (.int (0 : Int32)), .val (.int (1 : Int32)), .val (.ref b1), .val (.int (1 : Int32)), .unset] []))
  refine Good.back (fun _ k => XS.iload X6.here hx rfl (hb hby own_d4_14) rfl k) ?_
  show Good p e below _ (T6.setTop (mkF m 16 #[.val (.ref r0), .val (.int (0 : Int32)), .val (.int (1 : Int32)), .val (.ref b1), .val (.int (1 : Int32)), .unset] [(.int (1 : Int32))]))
  refine Good.back (fun _ k => XS.iloadN X6.here hx rfl (hb hby own_d4_16) rfl k) ?_
  show Good p e below _ (T6.setTop (mkF m 17 #[.val (.ref r0), .val (.int (0 : Int32)), .val (.int (1 : Int32)), .val (.ref b1), .val (.int (1 : Int32)), .unset] [(.int (1 : Int32)), (.int (1 : Int32))]))
  refine Good.back (fun _ k => XS.icmpYes X6.here hx rfl (pc0 := 17) (pc' := 57) rfl (hb hby own_d4_17) rfl (teq (by decide : ((1 : Int32) = (1 : Int32)))).1 (by decide) (by decide) k) ?_
  show Good p e below _ (T6.setTop (mkF m 57 #[.val (.ref r0), .val (.int (0 : Int32)), .val (.int (1 : Int32)), .val (.ref b1), .val (.int (1 : Int32)), .unset] []))
  refine Good.back (fun _ k => XS.aloadN X6.here hx rfl (hb hby own_d4_57) rfl rfl k) ?_
  show Good p e below _ (T6.setTop (mkF m 58 #[.val (.ref r0), .val (.int (0 : Int32)), .val (.int (1 : Int32)), .val (.ref b1), .val (.int (1 : Int32)), .unset] [(.ref b1)]))
  obtain ⟨fs11, hr11, hrun11, hended11, hW11, hsame11⟩ := X6.leave (v := some (.ref b1)) (fun h => by rw [Bd.returns] at h; cases h)
  refine Good.done (retOut X6 hx Bd.returns rfl (Or.inr (Or.inr (Or.inr (Or.inr ⟨rfl, rfl, rfl⟩)))) (hb hby own_d4_58) hr11) hrun11 hended11 ⟨_, _, rfl, ?_, ⟨_, rfl⟩, hW11, hsame11.mono (by decide) (by decide)⟩
  show Q4n1 Z r0 kc c0 h0 n0 _ T6.heap _
  have f_12 : Exa Z T6.heap b1 "[B" := Exa.keep f_4 Kq6
  exact ⟨_, _, rfl, N6, K10, sz_b1, o6_0, f_12⟩
theorem own_d6_0 : decode jdk_52_method_15_code 0 = .ok (.iload_n 1, 1) := by decide +kernel
theorem own_d6_1 : decode jdk_52_method_15_code 1 = .ok (.aload_n 0, 1) := by decide +kernel
theorem own_d6_2 : decode jdk_52_method_15_code 2 = .ok (.arraylength, 1) := by decide +kernel
theorem own_d6_3 : decode jdk_52_method_15_code 3 = .ok (.isub, 1) := by decide +kernel
theorem own_d6_4 : decode jdk_52_method_15_code 4 = .ok (.bipush 31, 2) := by decide +kernel
theorem own_d6_6 : decode jdk_52_method_15_code 6 = .ok (.iushr, 1) := by decide +kernel
theorem own_d6_7 : decode jdk_52_method_15_code 7 = .ok (.i2b, 1) := by decide +kernel
theorem own_d6_8 : decode jdk_52_method_15_code 8 = .ok (.ireturn, 1) := by decide +kernel
theorem own_ef_6n1 (m : MethodId) (x0 : Addr) (x1 : Int32) : entryFrame m #[(.ref x0), (.int x1)] 2 = mkF m 0 #[.val (.ref x0), .val (.int x1)] [] := by first | (simp [entryFrame, mkF, argsToLocals, Value.category]; done) | rfl
def Q6n1 (Z : State) (r0 : Addr) (kb : ClassId) (d0 : Value) (h0 : Heap) (n0 : Nat) (v : Option Value) (h : Heap) (L : List Loc) : Prop := v = some (.int 0) ∧ Fr n0 L ∧ h = h0
set_option maxRecDepth 65536 in
set_option maxHeartbeats 40000000 in
theorem rm6n1 (l : Launch) (Z : State) (a0 : Array Value) (hw : ∀ d ∈ tables_1, d.before a0 Z = true) (ws : List Jvm.Cond) (r0 : Addr) (kb : ClassId) (d0 : Value) (h0 : Heap) (n0 : Nat) (Z0 : n0 ≤ h0.size) (VB : Arv Z h0 r0 kb .byte (1 : Int32) [d0] (.int (0 : Int32))) :
    MetFree l (⟨"java/lang/StringUTF16", "coderFromArrayLen", "([BI)B"⟩ : MethodName) (head1 (Jvm.Cond.code (⟨"java/lang/StringUTF16", "coderFromArrayLen", "([BI)B"⟩ : MethodName) jdk_52_method_15_code 2 (some .byte) :: ws) ({ frames := 0, cells := 0, slots := 0, locals := 0 } : Room)) (fun a U => a = #[(.ref r0), (.int (1 : Int32))] ∧ Z.Warmed39 U.vm ∧ U.heap = h0) (fun _ _ _ _ _ => True) (fun _ U o U' => ∃ v L, o = .returned v ∧ Q6n1 Z r0 kb d0 h0 n0 v U'.heap L ∧ FrameEnd U o U' L ({ frames := 0, cells := 0, slots := 0, locals := 0 } : Room).cells ({ frames := 0, cells := 0, slots := 0, locals := 0 } : Room).slots) := by
  refine MetFree.of_bodySF (plainFor_of_name own_pn0) hisR ?_
  intro p e s m args below meth c s₁ Bd hml0 hP hK
  obtain ⟨rfl, hZ, hh⟩ := hP
  have hx := Bd.exec
  have hby := Bd.bytes
  have hml : c.maxLocals = 2 := hml0
  have hown : s.vm.findClass "java/lang/StringUTF16" = some m.cls := findClass_of_methodNamed Bd.named
  have hnm := (name_of_methodNamed Bd.named Bd.method).1
  have X0 : Stand p l e ({ frames := 0, cells := 0, slots := 0, locals := 0 } : Room) s m #[(.ref r0), (.int (1 : Int32))] below meth c s₁ [] 0 0 := Stand.of_body Bd
  have e0 : s₁.heap = h0 := by rw [← hh, Bd.state]; rfl
  have N0 := Fr.nil n0
  show Good p e below (fun o U' => ∃ v L, o = .returned v ∧ Q6n1 Z r0 kb d0 h0 n0 v U'.heap L ∧ FrameEnd s o U' L ({ frames := 0, cells := 0, slots := 0, locals := 0 } : Room).cells ({ frames := 0, cells := 0, slots := 0, locals := 0 } : Room).slots) _
  refine Good.back (S' := s₁.setTop (mkF m 0 #[.val (.ref r0), .val (.int (1 : Int32))] [])) (fun t k => castTop (own_ef_6n1 m r0 (1 : Int32)) k) ?_
  show Good p e below _ (s₁.setTop (mkF m 0 #[.val (.ref r0), .val (.int (1 : Int32))] []))
  refine Good.back (fun _ k => XS.iloadN X0.here hx rfl (hb hby own_d6_0) rfl k) ?_
  show Good p e below _ (s₁.setTop (mkF m 1 #[.val (.ref r0), .val (.int (1 : Int32))] [(.int (1 : Int32))]))
  refine Good.back (fun _ k => XS.aloadN X0.here hx rfl (hb hby own_d6_1) rfl rfl k) ?_
  show Good p e below _ (s₁.setTop (mkF m 2 #[.val (.ref r0), .val (.int (1 : Int32))] [(.ref r0), (.int (1 : Int32))]))
  have fc1 := VB
  obtain ⟨cl1, Ar1, qk1, S1, N1', H1, G1⟩ := fc1
  refine Good.back (X0.arraylength hx (by rw [e0]; exact Ar1.1) (State.isArrayOf_alike hZ.alike Ar1.2.1) (g := (mkF m 2 #[.val (.ref r0), .val (.int (1 : Int32))] [(.ref r0), (.int (1 : Int32))])) rfl rfl (hb hby own_d6_2)) ?_
  rw [len_of S1 N1']
  show Good p e below _ (s₁.setTop (mkF m 3 #[.val (.ref r0), .val (.int (1 : Int32))] [(.int (1 : Int32)), (.int (1 : Int32))]))
  refine Good.back (fun _ k => XS.isub X0.here hx rfl (hb hby own_d6_3) rfl k) ?_
  show Good p e below _ (s₁.setTop (mkF m 4 #[.val (.ref r0), .val (.int (1 : Int32))] [(.int ((1 : Int32) - (1 : Int32)))]))
  rw [show (((1 : Int32) - (1 : Int32)) : Int32) = (0 : Int32) from by decide]
  show Good p e below _ (s₁.setTop (mkF m 4 #[.val (.ref r0), .val (.int (1 : Int32))] [(.int (0 : Int32))]))
  refine Good.back (fun _ k => XS.bipush X0.here hx rfl (hb hby own_d6_4) k) ?_
  show Good p e below _ (s₁.setTop (mkF m 6 #[.val (.ref r0), .val (.int (1 : Int32))] [(.int (31 : Int32)), (.int (0 : Int32))]))
  refine Good.back (fun _ k => XS.iushr X0.here hx rfl (hb hby own_d6_6) rfl k) ?_
  show Good p e below _ (s₁.setTop (mkF m 7 #[.val (.ref r0), .val (.int (1 : Int32))] [(.int (((0 : Int32).toUInt32 >>> ((31 : Int32) &&& 31).toUInt32).toInt32))]))
  rw [show ((((0 : Int32).toUInt32 >>> ((31 : Int32) &&& 31).toUInt32).toInt32) : Int32) = (0 : Int32) from by decide]
  show Good p e below _ (s₁.setTop (mkF m 7 #[.val (.ref r0), .val (.int (1 : Int32))] [(.int (0 : Int32))]))
  refine Good.back (fun _ k => XS.i2b X0.here hx rfl (hb hby own_d6_7) rfl k) ?_
  show Good p e below _ (s₁.setTop (mkF m 8 #[.val (.ref r0), .val (.int (1 : Int32))] [(.int ((0 : Int32).toInt8.toInt32))]))
  obtain ⟨fs2, hr2, hrun2, hended2, hW2, hsame2⟩ := X0.leave (v := some (.int (nar .byte ((0 : Int32).toInt8.toInt32)))) (fun h => by rw [Bd.returns] at h; cases h)
  refine Good.done (retN X0 hx (t := .byte) Bd.returns (by simp) (hb hby own_d6_8) hr2) hrun2 hended2 ⟨_, _, rfl, ?_, ⟨_, rfl⟩, hW2, hsame2.mono (by decide) (by decide)⟩
  show Q6n1 Z r0 kb d0 h0 n0 _ s₁.heap _
  rw [e0]
  exact ⟨congrArg (fun z => some (Value.int z)) (by decide), N0, rfl⟩
theorem own_pd47 : parseMethodDescriptor "([CII)[B" = some ⟨[(.array .char), .int, .int], some (.array .byte)⟩ := by decide +kernel
theorem own_pd48 : parseMethodDescriptor "([BI)B" = some ⟨[(.array .byte), .int], some .byte⟩ := by decide +kernel
theorem own_pn1 : plainName "java/lang/String" = true := by first | (simp [plainName, overriddenIn]; done) | decide +kernel
theorem own_d2_0 : decode jdk_42_method_149_code 0 = .ok (.aload_n 0, 1) := by decide +kernel
theorem own_d2_1 : decode jdk_42_method_149_code 1 = .ok (.invokespecial 1, 3) := by decide +kernel
theorem own_d2_4 : decode jdk_42_method_149_code 4 = .ok (.iload_n 3, 1) := by decide +kernel
theorem own_d2_5 : decode jdk_42_method_149_code 5 = .ok (.ifCond .ne 22, 3) := by decide +kernel
theorem own_d2_27 : decode jdk_42_method_149_code 27 = .ok (.getstatic 38, 3) := by decide +kernel
theorem own_d2_30 : decode jdk_42_method_149_code 30 = .ok (.ifCond .eq 28, 3) := by decide +kernel
theorem own_d2_33 : decode jdk_42_method_149_code 33 = .ok (.aload_n 1, 1) := by decide +kernel
theorem own_d2_34 : decode jdk_42_method_149_code 34 = .ok (.iload_n 2, 1) := by decide +kernel
theorem own_d2_35 : decode jdk_42_method_149_code 35 = .ok (.iload_n 3, 1) := by decide +kernel
theorem own_d2_36 : decode jdk_42_method_149_code 36 = .ok (.invokestatic 177, 3) := by decide +kernel
theorem own_d2_39 : decode jdk_42_method_149_code 39 = .ok (.astore 5, 2) := by decide +kernel
theorem own_d2_41 : decode jdk_42_method_149_code 41 = .ok (.aload_n 0, 1) := by decide +kernel
theorem own_d2_42 : decode jdk_42_method_149_code 42 = .ok (.aload 5, 2) := by decide +kernel
theorem own_d2_44 : decode jdk_42_method_149_code 44 = .ok (.iload_n 3, 1) := by decide +kernel
theorem own_d2_45 : decode jdk_42_method_149_code 45 = .ok (.invokestatic 47, 3) := by decide +kernel
theorem own_d2_48 : decode jdk_42_method_149_code 48 = .ok (.putfield 15, 3) := by decide +kernel
theorem own_d2_51 : decode jdk_42_method_149_code 51 = .ok (.aload_n 0, 1) := by decide +kernel
theorem own_d2_52 : decode jdk_42_method_149_code 52 = .ok (.aload 5, 2) := by decide +kernel
theorem own_d2_54 : decode jdk_42_method_149_code 54 = .ok (.putfield 9, 3) := by decide +kernel
theorem own_d2_57 : decode jdk_42_method_149_code 57 = .ok (.return_, 1) := by decide +kernel
theorem own_ef_2n1 (m : MethodId) (x0 : Addr) (x1 : Addr) (x2 : Int32) (x3 : Int32) : entryFrame m #[(.ref x0), (.ref x1), (.int x2), (.int x3), .null] 6 = mkF m 0 #[.val (.ref x0), .val (.ref x1), .val (.int x2), .val (.int x3), .val .null, .unset] [] := by first | (simp [entryFrame, mkF, argsToLocals, Value.category]; done) | rfl
def Q2n1 (Z : State) (r0 : Addr) (r1 : Addr) (cs : Int32) (kc : ClassId) (c0 : Int32) (h0 : Heap) (n0 : Nat) (v : Option Value) (h : Heap) (L : List Loc) : Prop := ∃ (ar : Addr) (kb : ClassId), v = none ∧ Fr n0 L ∧ Keep h0 h [r0] ∧ h0.size ≤ ar ∧ Fld Z h r0 "java/lang/String" "value" "[B" (.ref ar) ∧ Fld Z h r0 "java/lang/String" "coder" "B" (.int (0 : Int32)) ∧ Arv Z h ar kb .byte (1 : Int32) [(.int (c0.toInt8.toInt32).toInt8.toInt32)] (.int (0 : Int32)) ∧ Exa Z h ar "[B"
set_option maxRecDepth 65536 in
set_option maxHeartbeats 40000000 in
theorem rm2n1 (l : Launch) (Z : State) (a0 : Array Value) (hw : ∀ d ∈ tables_1, d.before a0 Z = true) (ws : List Jvm.Cond) (r0 : Addr) (r1 : Addr) (cs : Int32) (kc : ClassId) (c0 : Int32) (h0 : Heap) (n0 : Nat) (Z0 : n0 ≤ h0.size) (S_cs : Sta Z h0 "java/lang/String" "COMPACT_STRINGS" "Z" (.int cs)) (hcs : ¬ (cs = (0 : Int32))) (E0 : Exa Z h0 r0 "java/lang/String") (g0 : n0 ≤ r0) (F_value : Fld Z h0 r0 "java/lang/String" "value" "[B" .null) (F_coder : Fld Z h0 r0 "java/lang/String" "coder" "B" (.int (0 : Int32))) (VC : Arv Z h0 r1 kc .char (1 : Int32) [(.int c0)] (.int (0 : Int32))) (hle0 : ¬ ((255 : Int32) < c0)) :
    MetFree l (⟨"java/lang/String", "<init>", "([CIILjava/lang/Void;)V"⟩ : MethodName) (head1 (Jvm.Cond.code (⟨"java/lang/String", "<init>", "([CIILjava/lang/Void;)V"⟩ : MethodName) jdk_42_method_149_code 6 none :: ws) ({ frames := 2, cells := 1, slots := 1, locals := 35 } : Room)) (fun a U => a = #[(.ref r0), (.ref r1), (.int (0 : Int32)), (.int (1 : Int32)), .null] ∧ Z.Warmed39 U.vm ∧ U.heap = h0) (fun _ _ _ _ _ => True) (fun _ U o U' => ∃ v L, o = .returned v ∧ Q2n1 Z r0 r1 cs kc c0 h0 n0 v U'.heap L ∧ FrameEnd U o U' L ({ frames := 2, cells := 1, slots := 1, locals := 35 } : Room).cells ({ frames := 2, cells := 1, slots := 1, locals := 35 } : Room).slots) := by
  refine MetFree.of_bodySF (plainFor_of_name own_pn1) hisR ?_
  intro p e s m args below meth c s₁ Bd hml0 hP hK
  obtain ⟨rfl, hZ, hh⟩ := hP
  have hx := Bd.exec
  have hby := Bd.bytes
  have hml : c.maxLocals = 6 := hml0
  have hown : s.vm.findClass "java/lang/String" = some m.cls := findClass_of_methodNamed Bd.named
  have hnm := (name_of_methodNamed Bd.named Bd.method).1
  have X0 : Stand p l e ({ frames := 2, cells := 1, slots := 1, locals := 35 } : Room) s m #[(.ref r0), (.ref r1), (.int (0 : Int32)), (.int (1 : Int32)), .null] below meth c s₁ [] 0 0 := Stand.of_body Bd
  have e0 : s₁.heap = h0 := by rw [← hh, Bd.state]; rfl
  have N0 := Fr.nil n0
  have KR : Keep h0 h0 [r0] := Keep.refl h0 _
  show Good p e below (fun o U' => ∃ v L, o = .returned v ∧ Q2n1 Z r0 r1 cs kc c0 h0 n0 v U'.heap L ∧ FrameEnd s o U' L ({ frames := 2, cells := 1, slots := 1, locals := 35 } : Room).cells ({ frames := 2, cells := 1, slots := 1, locals := 35 } : Room).slots) _
  refine Good.back (S' := s₁.setTop (mkF m 0 #[.val (.ref r0), .val (.ref r1), .val (.int (0 : Int32)), .val (.int (1 : Int32)), .val .null, .unset] [])) (fun t k => castTop (own_ef_2n1 m r0 r1 (0 : Int32) (1 : Int32)) k) ?_
  show Good p e below _ (s₁.setTop (mkF m 0 #[.val (.ref r0), .val (.ref r1), .val (.int (0 : Int32)), .val (.int (1 : Int32)), .val .null, .unset] []))
  refine Good.back (fun _ k => XS.aloadN X0.here hx rfl (hb hby own_d2_0) rfl rfl k) ?_
  show Good p e below _ (s₁.setTop (mkF m 1 #[.val (.ref r0), .val (.ref r1), .val (.int (0 : Int32)), .val (.int (1 : Int32)), .val .null, .unset] [(.ref r0)]))
  obtain ⟨T1, X1, e1, st1⟩ := initO X0 hx hZ hown (hw _ (List.mem_of_getElem? (i := 11) rfl)) (hw _ (List.mem_of_getElem? (i := 12) rfl)) (hw _ (List.mem_of_getElem? (i := 13) rfl)) e0 (g := (mkF m 1 #[.val (.ref r0), .val (.ref r1), .val (.int (0 : Int32)), .val (.int (1 : Int32)), .val .null, .unset] [(.ref r0)])) rfl (by rw [hml]; rfl) rfl (hb hby own_d2_1) (by decide) (W := 0) (by show 2 * 0 + _ ≤ _; exact Nat.le_of_eq rfl) (by decide)
  refine Good.back st1 ?_
  show Good p e below _ (T1.setTop (mkF m 4 #[.val (.ref r0), .val (.ref r1), .val (.int (0 : Int32)), .val (.int (1 : Int32)), .val .null, .unset] []))
  refine Good.back (fun _ k => XS.iloadN X1.here hx rfl (hb hby own_d2_4) rfl k) ?_
  show Good p e below _ (T1.setTop (mkF m 5 #[.val (.ref r0), .val (.ref r1), .val (.int (0 : Int32)), .val (.int (1 : Int32)), .val .null, .unset] [(.int (1 : Int32))]))
  refine Good.back (fun _ k => XS.ifYes X1.here hx rfl (pc0 := 5) (pc' := 27) rfl (hb hby own_d2_5) rfl ((if0 _ _).trans (feq (by decide : ¬ ((1 : Int32) = (0 : Int32)))).2) (by decide) (by decide) k) ?_
  show Good p e below _ (T1.setTop (mkF m 27 #[.val (.ref r0), .val (.ref r1), .val (.int (0 : Int32)), .val (.int (1 : Int32)), .val .null, .unset] []))
  obtain ⟨T2, X2, e2, st2⟩ := getS2 X1 hx hZ hown (host := "") (Or.inl (hw _ (List.mem_of_getElem? (i := 14) rfl))) Via.refl e1 S_cs (g := (mkF m 27 #[.val (.ref r0), .val (.ref r1), .val (.int (0 : Int32)), .val (.int (1 : Int32)), .val .null, .unset] [])) rfl (hb hby own_d2_27)
  refine Good.back st2 ?_
  show Good p e below _ (T2.setTop (mkF m 30 #[.val (.ref r0), .val (.ref r1), .val (.int (0 : Int32)), .val (.int (1 : Int32)), .val .null, .unset] [(.int cs)]))
  refine Good.back (fun _ k => XS.ifNo X2.here hx rfl (hb hby own_d2_30) rfl ((if0 _ _).trans (feq hcs).1) k) ?_
  show Good p e below _ (T2.setTop (mkF m 33 #[.val (.ref r0), .val (.ref r1), .val (.int (0 : Int32)), .val (.int (1 : Int32)), .val .null, .unset] []))
  refine Good.back (fun _ k => XS.aloadN X2.here hx rfl (hb hby own_d2_33) rfl rfl k) ?_
  show Good p e below _ (T2.setTop (mkF m 34 #[.val (.ref r0), .val (.ref r1), .val (.int (0 : Int32)), .val (.int (1 : Int32)), .val .null, .unset] [(.ref r1)]))
  refine Good.back (fun _ k => XS.iloadN X2.here hx rfl (hb hby own_d2_34) rfl k) ?_
  show Good p e below _ (T2.setTop (mkF m 35 #[.val (.ref r0), .val (.ref r1), .val (.int (0 : Int32)), .val (.int (1 : Int32)), .val .null, .unset] [(.int (0 : Int32)), (.ref r1)]))
  refine Good.back (fun _ k => XS.iloadN X2.here hx rfl (hb hby own_d2_35) rfl k) ?_
  show Good p e below _ (T2.setTop (mkF m 36 #[.val (.ref r0), .val (.ref r1), .val (.int (0 : Int32)), .val (.int (1 : Int32)), .val .null, .unset] [(.int (1 : Int32)), (.int (0 : Int32)), (.ref r1)]))
  obtain ⟨_, _, ⟨T3, L3, k3, n3⟩, -, X3, ⟨Lc3, hQ3, l3, y3, z3⟩, st3⟩ := Jvm.LawKit.callS X2 hx (y := (⟨"java/lang/StringUTF16", "compress", "([CII)[B"⟩ : MethodName)) hown (mvT hZ (hw _ (List.mem_of_getElem? (i := 15) rfl))) (mvT hZ (hw _ (List.mem_of_getElem? (i := 16) rfl))) (mvT hZ (hw _ (List.mem_of_getElem? (i := 17) rfl))) (mvT hZ (hw _ (List.mem_of_getElem? (i := 18) rfl))) (by decide) (backOf (W := 0) (rm4n1 l Z a0 hw [] r1 kc c0 h0 n0 Z0 VC (by first | assumption | decide)) hZ (hw _ (List.mem_of_getElem? (i := 18) rfl)) (hw _ (List.mem_of_getElem? (i := 17) rfl)) (by decide) (by decide)) (g := (mkF m 36 #[.val (.ref r0), .val (.ref r1), .val (.int (0 : Int32)), .val (.int (1 : Int32)), .val .null, .unset] [(.int (1 : Int32)), (.int (0 : Int32)), (.ref r1)])) rfl (by rw [hml]; rfl) (argsL := [(.ref r1), (.int (0 : Int32)), (.int (1 : Int32))]) (rest := []) (lenOf own_pd47 rfl) rfl (by show 2 * 0 + _ ≤ _; exact Nat.le_of_eq rfl) (hb hby own_d2_36) (fun _ _ => ⟨rfl, e2, (by decide : 0 + 1 ≤ _), (by decide : 0 + 1 ≤ _)⟩)
  dsimp only [Pt.U, Pt.locs, Pt.cells, Pt.slots] at X3 l3 y3 z3 st3 hQ3
  subst l3 y3 z3
  obtain ⟨ar_3, kb_3, rfl, N3q, Kq3, o3_0, o3_1, o3_2⟩ := hQ3
  have N3 := Fr.app N0 N3q
  have Z4 : n0 ≤ T3.heap.size := Nat.le_trans Z0 Kq3.1
  have K5 : Keep h0 T3.heap [r0] := KR.trans Kq3 all0
  have g_ar_3 : n0 ≤ ar_3 := Nat.le_trans Z0 o3_0
  have sz_ar_3 : h0.size ≤ ar_3 := Nat.le_trans KR.1 o3_0
  refine Good.back st3 ?_
  show Good p e below _ (T3.setTop (mkF m 39 #[.val (.ref r0), .val (.ref r1), .val (.int (0 : Int32)), .val (.int (1 : Int32)), .val .null, .unset] [(.ref ar_3)]))
  refine Good.back (fun _ k => XS.astore X3.here hx rfl (hb hby own_d2_39) rfl rfl (l' := #[.val (.ref r0), .val (.ref r1), .val (.int (0 : Int32)), .val (.int (1 : Int32)), .val .null, .val (.ref ar_3)]) rfl k) ?_
  show Good p e below _ (T3.setTop (mkF m 41 #[.val (.ref r0), .val (.ref r1), .val (.int (0 : Int32)), .val (.int (1 : Int32)), .val .null, .val (.ref ar_3)] []))
  refine Good.back (fun _ k => XS.aloadN X3.here hx rfl (hb hby own_d2_41) rfl rfl k) ?_
  show Good p e below _ (T3.setTop (mkF m 42 #[.val (.ref r0), .val (.ref r1), .val (.int (0 : Int32)), .val (.int (1 : Int32)), .val .null, .val (.ref ar_3)] [(.ref r0)]))
  refine Good.back (fun _ k => XS.aload X3.here hx rfl (hb hby own_d2_42) rfl rfl k) ?_
  show Good p e below _ (T3.setTop (mkF m 44 #[.val (.ref r0), .val (.ref r1), .val (.int (0 : Int32)), .val (.int (1 : Int32)), .val .null, .val (.ref ar_3)] [(.ref ar_3), (.ref r0)]))
  refine Good.back (fun _ k => XS.iloadN X3.here hx rfl (hb hby own_d2_44) rfl k) ?_
  show Good p e below _ (T3.setTop (mkF m 45 #[.val (.ref r0), .val (.ref r1), .val (.int (0 : Int32)), .val (.int (1 : Int32)), .val .null, .val (.ref ar_3)] [(.int (1 : Int32)), (.ref ar_3), (.ref r0)]))
  obtain ⟨_, _, ⟨T6, L6, k6, n6⟩, -, X6, ⟨Lc6, hQ6, l6, y6, z6⟩, st6⟩ := Jvm.LawKit.callS X3 hx (y := (⟨"java/lang/StringUTF16", "coderFromArrayLen", "([BI)B"⟩ : MethodName)) hown (mvT hZ (hw _ (List.mem_of_getElem? (i := 23) rfl))) (mvT hZ (hw _ (List.mem_of_getElem? (i := 24) rfl))) (mvT hZ (hw _ (List.mem_of_getElem? (i := 17) rfl))) (mvT hZ (hw _ (List.mem_of_getElem? (i := 25) rfl))) (by decide) (backOf (W := 1) (rm6n1 l Z a0 hw [] ar_3 kb_3 (.int (c0.toInt8.toInt32).toInt8.toInt32) T3.heap n0 Z4 o3_1) hZ (hw _ (List.mem_of_getElem? (i := 25) rfl)) (hw _ (List.mem_of_getElem? (i := 17) rfl)) (by decide) (by decide)) (g := (mkF m 45 #[.val (.ref r0), .val (.ref r1), .val (.int (0 : Int32)), .val (.int (1 : Int32)), .val .null, .val (.ref ar_3)] [(.int (1 : Int32)), (.ref ar_3), (.ref r0)])) rfl (by rw [hml]; rfl) (argsL := [(.ref ar_3), (.int (1 : Int32))]) (rest := [(.ref r0)]) (lenOf own_pd48 rfl) rfl (by show 2 * 0 + _ ≤ _; exact Nat.le_of_eq rfl) (hb hby own_d2_45) (fun _ _ => ⟨rfl, rfl, (by decide : 1 + 0 ≤ _), (by decide : 1 + 0 ≤ _)⟩)
  dsimp only [Pt.U, Pt.locs, Pt.cells, Pt.slots] at X6 l6 y6 z6 st6 hQ6
  subst l6 y6 z6
  obtain ⟨rfl, N6q, eh6⟩ := hQ6
  have N6 := Fr.app N3 N6q
  refine Good.back st6 ?_
  show Good p e below _ (T6.setTop (mkF m 48 #[.val (.ref r0), .val (.ref r1), .val (.int (0 : Int32)), .val (.int (1 : Int32)), .val .null, .val (.ref ar_3)] [(.int (0 : Int32)), (.ref r0)]))
  have f_7 : Fld Z T3.heap r0 "java/lang/String" "coder" "B" (.int (0 : Int32)) := Fld.keep F_coder Kq3 nin0
  have f_8 : Exa Z T3.heap r0 "java/lang/String" := Exa.keep E0 Kq3
  obtain ⟨T9, h9, X9, e9, W9, st9⟩ := putFN X6 hx hZ hown (hw _ (List.mem_of_getElem? (i := 26) rfl)) Via.refl eh6 f_7 f_8 (Or.inr ⟨(hw _ (List.mem_of_getElem? (i := 27) rfl)), rfl, hnm⟩) (hw _ (List.mem_of_getElem? (i := 2) rfl)) (ty := .byte) (v' := (.int (0 : Int32))) (by decide) rfl (by decide) (g := (mkF m 48 #[.val (.ref r0), .val (.ref r1), .val (.int (0 : Int32)), .val (.int (1 : Int32)), .val .null, .val (.ref ar_3)] [(.int (0 : Int32)), (.ref r0)])) rfl rfl (hb hby own_d2_48)
  refine Good.back st9 ?_
  have f_10 : Fld Z h9 r0 "java/lang/String" "coder" "B" (.int (0 : Int32)) := Fld.same W9 f_7
  have N9 := Fr.snoc X9 N6 g0
  have Z11 : n0 ≤ h9.size := Nat.le_trans Z4 (Keep.of_wr W9).1
  have K12 : Keep h0 h9 [r0] := K5.wr W9 (Or.inl (List.mem_of_getElem? (i := 0) rfl))
  show Good p e below _ (T9.setTop (mkF m 51 #[.val (.ref r0), .val (.ref r1), .val (.int (0 : Int32)), .val (.int (1 : Int32)), .val .null, .val (.ref ar_3)] []))
  refine Good.back (fun _ k => XS.aloadN X9.here hx rfl (hb hby own_d2_51) rfl rfl k) ?_
  show Good p e below _ (T9.setTop (mkF m 52 #[.val (.ref r0), .val (.ref r1), .val (.int (0 : Int32)), .val (.int (1 : Int32)), .val .null, .val (.ref ar_3)] [(.ref r0)]))
  refine Good.back (fun _ k => XS.aload X9.here hx rfl (hb hby own_d2_52) rfl rfl k) ?_
  show Good p e below _ (T9.setTop (mkF m 54 #[.val (.ref r0), .val (.ref r1), .val (.int (0 : Int32)), .val (.int (1 : Int32)), .val .null, .val (.ref ar_3)] [(.ref ar_3), (.ref r0)]))
  have f_13 : Fld Z T3.heap r0 "java/lang/String" "value" "[B" .null := Fld.keep F_value Kq3 nin0
  have f_14 : Fld Z h9 r0 "java/lang/String" "value" "[B" .null := Fld.other W9 f_13 (Or.inr (slot_ne (Or.inr (hw _ (List.mem_of_getElem? (i := 29) rfl))) (Or.inr (hw _ (List.mem_of_getElem? (i := 27) rfl))) (by decide) (t := (.array .byte)) (t' := .byte) (by decide) (by decide)))
  have f_15 : Exa Z h9 r0 "java/lang/String" := Exa.wr W9 f_8
  obtain ⟨T16, h16, X16, e16, W16, st16⟩ := putF X9 hx hZ hown (host := "") (Or.inl (hw _ (List.mem_of_getElem? (i := 28) rfl))) Via.refl e9 f_14 f_15 (Or.inr ⟨(hw _ (List.mem_of_getElem? (i := 29) rfl)), rfl, hnm⟩) (hw _ (List.mem_of_getElem? (i := 2) rfl)) (ty := (.array .byte)) (by decide) rfl rfl (g := (mkF m 54 #[.val (.ref r0), .val (.ref r1), .val (.int (0 : Int32)), .val (.int (1 : Int32)), .val .null, .val (.ref ar_3)] [(.ref ar_3), (.ref r0)])) rfl rfl (hb hby own_d2_54)
  refine Good.back st16 ?_
  have f_17 : Fld Z h16 r0 "java/lang/String" "value" "[B" (.ref ar_3) := Fld.same W16 f_14
  have N16 := Fr.snoc X16 N9 g0
  have Z18 : n0 ≤ h16.size := Nat.le_trans Z11 (Keep.of_wr W16).1
  have K19 : Keep h0 h16 [r0] := K12.wr W16 (Or.inl (List.mem_of_getElem? (i := 0) rfl))
  show Good p e below _ (T16.setTop (mkF m 57 #[.val (.ref r0), .val (.ref r1), .val (.int (0 : Int32)), .val (.int (1 : Int32)), .val .null, .val (.ref ar_3)] []))
  obtain ⟨fs20, hr20, hrun20, hended20, hW20, hsame20⟩ := X16.leave (v := none) (fun _ => rfl)
  refine Good.done (X16.returnOut hx Bd.returns (hb hby own_d2_57) hr20) hrun20 hended20 ⟨_, _, rfl, ?_, ⟨_, rfl⟩, hW20, hsame20.mono (by decide) (by decide)⟩
  show Q2n1 Z r0 r1 cs kc c0 h0 n0 _ T16.heap _
  rw [e16]
  have f_21 : Fld Z h16 r0 "java/lang/String" "coder" "B" (.int (0 : Int32)) := Fld.other W16 f_10 (Or.inr (slot_ne (Or.inr (hw _ (List.mem_of_getElem? (i := 27) rfl))) (Or.inr (hw _ (List.mem_of_getElem? (i := 29) rfl))) (by decide) (t := .byte) (t' := (.array .byte)) (by decide) (by decide)))
  have ne_r0_ar_3_23 : r0 ≠ ar_3 := Nat.ne_of_lt (Nat.lt_of_lt_of_le F_coder.lt o3_0)
  have f_22 : Arv Z h9 ar_3 kb_3 .byte (1 : Int32) [(.int (c0.toInt8.toInt32).toInt8.toInt32)] (.int (0 : Int32)) := Arv.other o3_1 W9 (Ne.symm ne_r0_ar_3_23)
  have f_24 : Arv Z h16 ar_3 kb_3 .byte (1 : Int32) [(.int (c0.toInt8.toInt32).toInt8.toInt32)] (.int (0 : Int32)) := Arv.other f_22 W16 (Ne.symm ne_r0_ar_3_23)
  have f_25 : Exa Z h9 ar_3 "[B" := Exa.wr W9 o3_2
  have f_26 : Exa Z h16 ar_3 "[B" := Exa.wr W16 f_25
  exact ⟨_, _, rfl, N16, K19, sz_ar_3, f_17, f_21, f_24, f_26⟩
theorem own_pd69 : parseMethodDescriptor "([CIILjava/lang/Void;)V" = some ⟨[(.array .char), .int, .int, (.object "java/lang/Void")], none⟩ := by decide +kernel
theorem own_d1_0 : decode jdk_42_method_3_code 0 = .ok (.aload_n 0, 1) := by decide +kernel
theorem own_d1_1 : decode jdk_42_method_3_code 1 = .ok (.aload_n 1, 1) := by decide +kernel
theorem own_d1_2 : decode jdk_42_method_3_code 2 = .ok (.iconst 0, 1) := by decide +kernel
theorem own_d1_3 : decode jdk_42_method_3_code 3 = .ok (.aload_n 1, 1) := by decide +kernel
theorem own_d1_4 : decode jdk_42_method_3_code 4 = .ok (.arraylength, 1) := by decide +kernel
theorem own_d1_5 : decode jdk_42_method_3_code 5 = .ok (.aconst_null, 1) := by decide +kernel
theorem own_d1_6 : decode jdk_42_method_3_code 6 = .ok (.invokespecial 27, 3) := by decide +kernel
theorem own_d1_9 : decode jdk_42_method_3_code 9 = .ok (.return_, 1) := by decide +kernel
theorem own_ef_1n1 (m : MethodId) (x0 : Addr) (x1 : Addr) : entryFrame m #[(.ref x0), (.ref x1)] 2 = mkF m 0 #[.val (.ref x0), .val (.ref x1)] [] := by first | (simp [entryFrame, mkF, argsToLocals, Value.category]; done) | rfl
def Q1n1 (Z : State) (r0 : Addr) (r1 : Addr) (cs : Int32) (kc : ClassId) (c0 : Int32) (h0 : Heap) (n0 : Nat) (v : Option Value) (h : Heap) (L : List Loc) : Prop := ∃ (ar : Addr) (kb : ClassId), v = none ∧ Fr n0 L ∧ Keep h0 h [r0] ∧ h0.size ≤ ar ∧ Fld Z h r0 "java/lang/String" "value" "[B" (.ref ar) ∧ Fld Z h r0 "java/lang/String" "coder" "B" (.int (0 : Int32)) ∧ Arv Z h ar kb .byte (1 : Int32) [(.int (c0.toInt8.toInt32).toInt8.toInt32)] (.int (0 : Int32)) ∧ Exa Z h ar "[B"
set_option maxRecDepth 65536 in
set_option maxHeartbeats 40000000 in
theorem rm1n1 (l : Launch) (Z : State) (a0 : Array Value) (hw : ∀ d ∈ tables_1, d.before a0 Z = true) (ws : List Jvm.Cond) (r0 : Addr) (r1 : Addr) (cs : Int32) (kc : ClassId) (c0 : Int32) (h0 : Heap) (n0 : Nat) (Z0 : n0 ≤ h0.size) (S_cs : Sta Z h0 "java/lang/String" "COMPACT_STRINGS" "Z" (.int cs)) (hcs : ¬ (cs = (0 : Int32))) (E0 : Exa Z h0 r0 "java/lang/String") (g0 : n0 ≤ r0) (F_value : Fld Z h0 r0 "java/lang/String" "value" "[B" .null) (F_coder : Fld Z h0 r0 "java/lang/String" "coder" "B" (.int (0 : Int32))) (VC : Arv Z h0 r1 kc .char (1 : Int32) [(.int c0)] (.int (0 : Int32))) (hle0 : ¬ ((255 : Int32) < c0)) :
    MetFree l (⟨"java/lang/String", "<init>", "([C)V"⟩ : MethodName) (head1 (Jvm.Cond.code (⟨"java/lang/String", "<init>", "([C)V"⟩ : MethodName) jdk_42_method_3_code 2 none :: ws) ({ frames := 3, cells := 1, slots := 1, locals := 52 } : Room)) (fun a U => a = #[(.ref r0), (.ref r1)] ∧ Z.Warmed39 U.vm ∧ U.heap = h0) (fun _ _ _ _ _ => True) (fun _ U o U' => ∃ v L, o = .returned v ∧ Q1n1 Z r0 r1 cs kc c0 h0 n0 v U'.heap L ∧ FrameEnd U o U' L ({ frames := 3, cells := 1, slots := 1, locals := 52 } : Room).cells ({ frames := 3, cells := 1, slots := 1, locals := 52 } : Room).slots) := by
  refine MetFree.of_bodySF (plainFor_of_name own_pn1) hisR ?_
  intro p e s m args below meth c s₁ Bd hml0 hP hK
  obtain ⟨rfl, hZ, hh⟩ := hP
  have hx := Bd.exec
  have hby := Bd.bytes
  have hml : c.maxLocals = 2 := hml0
  have hown : s.vm.findClass "java/lang/String" = some m.cls := findClass_of_methodNamed Bd.named
  have hnm := (name_of_methodNamed Bd.named Bd.method).1
  have X0 : Stand p l e ({ frames := 3, cells := 1, slots := 1, locals := 52 } : Room) s m #[(.ref r0), (.ref r1)] below meth c s₁ [] 0 0 := Stand.of_body Bd
  have e0 : s₁.heap = h0 := by rw [← hh, Bd.state]; rfl
  have N0 := Fr.nil n0
  have KR : Keep h0 h0 [r0] := Keep.refl h0 _
  show Good p e below (fun o U' => ∃ v L, o = .returned v ∧ Q1n1 Z r0 r1 cs kc c0 h0 n0 v U'.heap L ∧ FrameEnd s o U' L ({ frames := 3, cells := 1, slots := 1, locals := 52 } : Room).cells ({ frames := 3, cells := 1, slots := 1, locals := 52 } : Room).slots) _
  refine Good.back (S' := s₁.setTop (mkF m 0 #[.val (.ref r0), .val (.ref r1)] [])) (fun t k => castTop (own_ef_1n1 m r0 r1) k) ?_
  show Good p e below _ (s₁.setTop (mkF m 0 #[.val (.ref r0), .val (.ref r1)] []))
  refine Good.back (fun _ k => XS.aloadN X0.here hx rfl (hb hby own_d1_0) rfl rfl k) ?_
  show Good p e below _ (s₁.setTop (mkF m 1 #[.val (.ref r0), .val (.ref r1)] [(.ref r0)]))
  refine Good.back (fun _ k => XS.aloadN X0.here hx rfl (hb hby own_d1_1) rfl rfl k) ?_
  show Good p e below _ (s₁.setTop (mkF m 2 #[.val (.ref r0), .val (.ref r1)] [(.ref r1), (.ref r0)]))
  refine Good.back (fun _ k => XS.iconst X0.here hx rfl (hb hby own_d1_2) k) ?_
  show Good p e below _ (s₁.setTop (mkF m 3 #[.val (.ref r0), .val (.ref r1)] [(.int (0 : Int32)), (.ref r1), (.ref r0)]))
  refine Good.back (fun _ k => XS.aloadN X0.here hx rfl (hb hby own_d1_3) rfl rfl k) ?_
  show Good p e below _ (s₁.setTop (mkF m 4 #[.val (.ref r0), .val (.ref r1)] [(.ref r1), (.int (0 : Int32)), (.ref r1), (.ref r0)]))
  have fc1 := VC
  obtain ⟨cl1, Ar1, qk1, S1, N1', H1, G1⟩ := fc1
  refine Good.back (X0.arraylength hx (by rw [e0]; exact Ar1.1) (State.isArrayOf_alike hZ.alike Ar1.2.1) (g := (mkF m 4 #[.val (.ref r0), .val (.ref r1)] [(.ref r1), (.int (0 : Int32)), (.ref r1), (.ref r0)])) rfl rfl (hb hby own_d1_4)) ?_
  rw [len_of S1 N1']
  show Good p e below _ (s₁.setTop (mkF m 5 #[.val (.ref r0), .val (.ref r1)] [(.int (1 : Int32)), (.int (0 : Int32)), (.ref r1), (.ref r0)]))
  refine Good.back (fun _ k => XS.aconstNull X0.here hx rfl (hb hby own_d1_5) k) ?_
  show Good p e below _ (s₁.setTop (mkF m 6 #[.val (.ref r0), .val (.ref r1)] [.null, (.int (1 : Int32)), (.int (0 : Int32)), (.ref r1), (.ref r0)]))
  obtain ⟨_, _, ⟨T2, L2, k2, n2⟩, -, X2, ⟨Lc2, hQ2, l2, y2, z2⟩, st2⟩ := X0.specialBack hx (y := (⟨"java/lang/String", "<init>", "([CIILjava/lang/Void;)V"⟩ : MethodName)) rfl hown (mvT hZ (hw _ (List.mem_of_getElem? (i := 7) rfl))) (mvT hZ (hw _ (List.mem_of_getElem? (i := 8) rfl))) (mvT hZ (hw _ (List.mem_of_getElem? (i := 10) rfl))) (by decide) (backOf (W := 0) (rm2n1 l Z a0 hw [] r0 r1 cs kc c0 h0 n0 Z0 S_cs (by first | assumption | decide) E0 g0 F_value F_coder VC (by first | assumption | decide)) hZ (hw _ (List.mem_of_getElem? (i := 10) rfl)) (hw _ (List.mem_of_getElem? (i := 3) rfl)) (by decide) (by decide)) (g := (mkF m 6 #[.val (.ref r0), .val (.ref r1)] [.null, (.int (1 : Int32)), (.int (0 : Int32)), (.ref r1), (.ref r0)])) rfl (by rw [hml]; rfl) (Steps.refl _) (a := r0) (argsL := [(.ref r1), (.int (0 : Int32)), (.int (1 : Int32)), .null]) (rest := []) (lenOf own_pd69 rfl) rfl (by show 2 * 0 + _ ≤ _; exact Nat.le_of_eq rfl) (hb hby own_d1_6) (fun _ _ => ⟨rfl, e0, (by decide : 0 + 1 ≤ _), (by decide : 0 + 1 ≤ _)⟩)
  dsimp only [Pt.U, Pt.locs, Pt.cells, Pt.slots] at X2 l2 y2 z2 st2 hQ2
  subst l2 y2 z2
  obtain ⟨ar_2, kb_2, rfl, N2q, Kq2, o2_0, o2_1, o2_2, o2_3, o2_4⟩ := hQ2
  have N2 := Fr.app N0 N2q
  have Z3 : n0 ≤ T2.heap.size := Nat.le_trans Z0 Kq2.1
  have K4 : Keep h0 T2.heap [r0] := KR.trans Kq2 (allS (Or.inl (List.mem_of_getElem? (i := 0) rfl)) all0)
  have g_ar_2 : n0 ≤ ar_2 := Nat.le_trans Z0 o2_0
  have sz_ar_2 : h0.size ≤ ar_2 := Nat.le_trans KR.1 o2_0
  refine Good.back (fun _ k => st2.trans k) ?_
  show Good p e below _ (T2.setTop (mkF m 9 #[.val (.ref r0), .val (.ref r1)] []))
  obtain ⟨fs5, hr5, hrun5, hended5, hW5, hsame5⟩ := X2.leave (v := none) (fun _ => rfl)
  refine Good.done (X2.returnOut hx Bd.returns (hb hby own_d1_9) hr5) hrun5 hended5 ⟨_, _, rfl, ?_, ⟨_, rfl⟩, hW5, hsame5.mono (by decide) (by decide)⟩
  show Q1n1 Z r0 r1 cs kc c0 h0 n0 _ T2.heap _
  exact ⟨_, _, rfl, N2, K4, sz_ar_2, o2_1, o2_2, o2_3, o2_4⟩
theorem own_pn2 : plainName "java/lang/Record" = true := by first | (simp [plainName, overriddenIn]; done) | decide +kernel
theorem own_d11_0 : decode jdk_30_method_1_code 0 = .ok (.aload_n 0, 1) := by decide +kernel
theorem own_d11_1 : decode jdk_30_method_1_code 1 = .ok (.invokespecial 1, 3) := by decide +kernel
theorem own_d11_4 : decode jdk_30_method_1_code 4 = .ok (.return_, 1) := by decide +kernel
theorem own_ef_11 (m : MethodId) (x0 : Addr) : entryFrame m #[(.ref x0)] 1 = mkF m 0 #[.val (.ref x0)] [] := by first | (simp [entryFrame, mkF, argsToLocals, Value.category]; done) | rfl
def Q11 (Z : State) (r0 : Addr) (h0 : Heap) (n0 : Nat) (v : Option Value) (h : Heap) (L : List Loc) : Prop := v = none ∧ Fr n0 L ∧ h = h0
set_option maxRecDepth 65536 in
set_option maxHeartbeats 40000000 in
theorem rm11 (l : Launch) (Z : State) (a0 : Array Value) (hw : ∀ d ∈ tables_1, d.before a0 Z = true) (ws : List Jvm.Cond) (r0 : Addr) (h0 : Heap) (n0 : Nat) (Z0 : n0 ≤ h0.size)  :
    MetFree l (⟨"java/lang/Record", "<init>", "()V"⟩ : MethodName) (head1 (Jvm.Cond.code (⟨"java/lang/Record", "<init>", "()V"⟩ : MethodName) jdk_30_method_1_code 1 none :: ws) ({ frames := 1, cells := 0, slots := 0, locals := 12 } : Room)) (fun a U => a = #[(.ref r0)] ∧ Z.Warmed39 U.vm ∧ U.heap = h0) (fun _ _ _ _ _ => True) (fun _ U o U' => ∃ v L, o = .returned v ∧ Q11 Z r0 h0 n0 v U'.heap L ∧ FrameEnd U o U' L ({ frames := 1, cells := 0, slots := 0, locals := 12 } : Room).cells ({ frames := 1, cells := 0, slots := 0, locals := 12 } : Room).slots) := by
  refine MetFree.of_bodySF (plainFor_of_name own_pn2) hisR ?_
  intro p e s m args below meth c s₁ Bd hml0 hP hK
  obtain ⟨rfl, hZ, hh⟩ := hP
  have hx := Bd.exec
  have hby := Bd.bytes
  have hml : c.maxLocals = 1 := hml0
  have hown : s.vm.findClass "java/lang/Record" = some m.cls := findClass_of_methodNamed Bd.named
  have hnm := (name_of_methodNamed Bd.named Bd.method).1
  have X0 : Stand p l e ({ frames := 1, cells := 0, slots := 0, locals := 12 } : Room) s m #[(.ref r0)] below meth c s₁ [] 0 0 := Stand.of_body Bd
  have e0 : s₁.heap = h0 := by rw [← hh, Bd.state]; rfl
  have N0 := Fr.nil n0
  show Good p e below (fun o U' => ∃ v L, o = .returned v ∧ Q11 Z r0 h0 n0 v U'.heap L ∧ FrameEnd s o U' L ({ frames := 1, cells := 0, slots := 0, locals := 12 } : Room).cells ({ frames := 1, cells := 0, slots := 0, locals := 12 } : Room).slots) _
  refine Good.back (S' := s₁.setTop (mkF m 0 #[.val (.ref r0)] [])) (fun t k => castTop (own_ef_11 m r0) k) ?_
  show Good p e below _ (s₁.setTop (mkF m 0 #[.val (.ref r0)] []))
  refine Good.back (fun _ k => XS.aloadN X0.here hx rfl (hb hby own_d11_0) rfl rfl k) ?_
  show Good p e below _ (s₁.setTop (mkF m 1 #[.val (.ref r0)] [(.ref r0)]))
  obtain ⟨T1, X1, e1, st1⟩ := initO X0 hx hZ hown (hw _ (List.mem_of_getElem? (i := 65) rfl)) (hw _ (List.mem_of_getElem? (i := 12) rfl)) (hw _ (List.mem_of_getElem? (i := 13) rfl)) e0 (g := (mkF m 1 #[.val (.ref r0)] [(.ref r0)])) rfl (by rw [hml]; rfl) rfl (hb hby own_d11_1) (by decide) (W := 0) (by show 2 * 0 + _ ≤ _; exact Nat.le_of_eq rfl) (by decide)
  refine Good.back st1 ?_
  show Good p e below _ (T1.setTop (mkF m 4 #[.val (.ref r0)] []))
  obtain ⟨fs2, hr2, hrun2, hended2, hW2, hsame2⟩ := X1.leave (v := none) (fun _ => rfl)
  refine Good.done (X1.returnOut hx Bd.returns (hb hby own_d11_4) hr2) hrun2 hended2 ⟨_, _, rfl, ?_, ⟨_, rfl⟩, hW2, hsame2.mono (by decide) (by decide)⟩
  show Q11 Z r0 h0 n0 _ T1.heap _
  rw [e1]
  exact ⟨rfl, N0, rfl⟩
theorem own_pn3 : plainName "java/util/AbstractCollection" = true := by first | (simp [plainName, overriddenIn]; done) | decide +kernel
theorem own_d9_0 : decode jdk_22_method_1_code 0 = .ok (.aload_n 0, 1) := by decide +kernel
theorem own_d9_1 : decode jdk_22_method_1_code 1 = .ok (.invokespecial 1, 3) := by decide +kernel
theorem own_d9_4 : decode jdk_22_method_1_code 4 = .ok (.return_, 1) := by decide +kernel
theorem own_ef_9 (m : MethodId) (x0 : Addr) : entryFrame m #[(.ref x0)] 1 = mkF m 0 #[.val (.ref x0)] [] := by first | (simp [entryFrame, mkF, argsToLocals, Value.category]; done) | rfl
def Q9 (Z : State) (r0 : Addr) (h0 : Heap) (n0 : Nat) (v : Option Value) (h : Heap) (L : List Loc) : Prop := v = none ∧ Fr n0 L ∧ h = h0
set_option maxRecDepth 65536 in
set_option maxHeartbeats 40000000 in
theorem rm9 (l : Launch) (Z : State) (a0 : Array Value) (hw : ∀ d ∈ tables_1, d.before a0 Z = true) (ws : List Jvm.Cond) (r0 : Addr) (h0 : Heap) (n0 : Nat) (Z0 : n0 ≤ h0.size)  :
    MetFree l (⟨"java/util/AbstractCollection", "<init>", "()V"⟩ : MethodName) (head1 (Jvm.Cond.code (⟨"java/util/AbstractCollection", "<init>", "()V"⟩ : MethodName) jdk_22_method_1_code 1 none :: ws) ({ frames := 1, cells := 0, slots := 0, locals := 12 } : Room)) (fun a U => a = #[(.ref r0)] ∧ Z.Warmed39 U.vm ∧ U.heap = h0) (fun _ _ _ _ _ => True) (fun _ U o U' => ∃ v L, o = .returned v ∧ Q9 Z r0 h0 n0 v U'.heap L ∧ FrameEnd U o U' L ({ frames := 1, cells := 0, slots := 0, locals := 12 } : Room).cells ({ frames := 1, cells := 0, slots := 0, locals := 12 } : Room).slots) := by
  refine MetFree.of_bodySF (plainFor_of_name own_pn3) hisR ?_
  intro p e s m args below meth c s₁ Bd hml0 hP hK
  obtain ⟨rfl, hZ, hh⟩ := hP
  have hx := Bd.exec
  have hby := Bd.bytes
  have hml : c.maxLocals = 1 := hml0
  have hown : s.vm.findClass "java/util/AbstractCollection" = some m.cls := findClass_of_methodNamed Bd.named
  have hnm := (name_of_methodNamed Bd.named Bd.method).1
  have X0 : Stand p l e ({ frames := 1, cells := 0, slots := 0, locals := 12 } : Room) s m #[(.ref r0)] below meth c s₁ [] 0 0 := Stand.of_body Bd
  have e0 : s₁.heap = h0 := by rw [← hh, Bd.state]; rfl
  have N0 := Fr.nil n0
  show Good p e below (fun o U' => ∃ v L, o = .returned v ∧ Q9 Z r0 h0 n0 v U'.heap L ∧ FrameEnd s o U' L ({ frames := 1, cells := 0, slots := 0, locals := 12 } : Room).cells ({ frames := 1, cells := 0, slots := 0, locals := 12 } : Room).slots) _
  refine Good.back (S' := s₁.setTop (mkF m 0 #[.val (.ref r0)] [])) (fun t k => castTop (own_ef_9 m r0) k) ?_
  show Good p e below _ (s₁.setTop (mkF m 0 #[.val (.ref r0)] []))
  refine Good.back (fun _ k => XS.aloadN X0.here hx rfl (hb hby own_d9_0) rfl rfl k) ?_
  show Good p e below _ (s₁.setTop (mkF m 1 #[.val (.ref r0)] [(.ref r0)]))
  obtain ⟨T1, X1, e1, st1⟩ := initO X0 hx hZ hown (hw _ (List.mem_of_getElem? (i := 48) rfl)) (hw _ (List.mem_of_getElem? (i := 12) rfl)) (hw _ (List.mem_of_getElem? (i := 13) rfl)) e0 (g := (mkF m 1 #[.val (.ref r0)] [(.ref r0)])) rfl (by rw [hml]; rfl) rfl (hb hby own_d9_1) (by decide) (W := 0) (by show 2 * 0 + _ ≤ _; exact Nat.le_of_eq rfl) (by decide)
  refine Good.back st1 ?_
  show Good p e below _ (T1.setTop (mkF m 4 #[.val (.ref r0)] []))
  obtain ⟨fs2, hr2, hrun2, hended2, hW2, hsame2⟩ := X1.leave (v := none) (fun _ => rfl)
  refine Good.done (X1.returnOut hx Bd.returns (hb hby own_d9_4) hr2) hrun2 hended2 ⟨_, _, rfl, ?_, ⟨_, rfl⟩, hW2, hsame2.mono (by decide) (by decide)⟩
  show Q9 Z r0 h0 n0 _ T1.heap _
  rw [e1]
  exact ⟨rfl, N0, rfl⟩
theorem own_pd84 : parseMethodDescriptor "()V" = some ⟨[], none⟩ := by decide +kernel
theorem own_pn4 : plainName "java/util/AbstractList" = true := by first | (simp [plainName, overriddenIn]; done) | decide +kernel
theorem own_d8_0 : decode jdk_39_method_1_code 0 = .ok (.aload_n 0, 1) := by decide +kernel
theorem own_d8_1 : decode jdk_39_method_1_code 1 = .ok (.invokespecial 1, 3) := by decide +kernel
theorem own_d8_4 : decode jdk_39_method_1_code 4 = .ok (.aload_n 0, 1) := by decide +kernel
theorem own_d8_5 : decode jdk_39_method_1_code 5 = .ok (.iconst 0, 1) := by decide +kernel
theorem own_d8_6 : decode jdk_39_method_1_code 6 = .ok (.putfield 7, 3) := by decide +kernel
theorem own_d8_9 : decode jdk_39_method_1_code 9 = .ok (.return_, 1) := by decide +kernel
theorem own_ef_8 (m : MethodId) (x0 : Addr) : entryFrame m #[(.ref x0)] 1 = mkF m 0 #[.val (.ref x0)] [] := by first | (simp [entryFrame, mkF, argsToLocals, Value.category]; done) | rfl
def Q8 (Z : State) (r0 : Addr) (h0 : Heap) (n0 : Nat) (v : Option Value) (h : Heap) (L : List Loc) : Prop := v = none ∧ Fr n0 L ∧ Keep h0 h [r0] ∧ Fld Z h r0 "java/util/ArrayList" "elementData" "[Ljava/lang/Object;" .null
set_option maxRecDepth 65536 in
set_option maxHeartbeats 40000000 in
theorem rm8 (l : Launch) (Z : State) (a0 : Array Value) (hw : ∀ d ∈ tables_1, d.before a0 Z = true) (ws : List Jvm.Cond) (r0 : Addr) (h0 : Heap) (n0 : Nat) (Z0 : n0 ≤ h0.size) (E0 : Exa Z h0 r0 "java/util/ArrayList") (g0 : n0 ≤ r0) (F_mod : Fld Z h0 r0 "java/util/AbstractList" "modCount" "I" (.int (0 : Int32))) (F_ed : Fld Z h0 r0 "java/util/ArrayList" "elementData" "[Ljava/lang/Object;" .null) :
    MetFree l (⟨"java/util/AbstractList", "<init>", "()V"⟩ : MethodName) (head1 (Jvm.Cond.code (⟨"java/util/AbstractList", "<init>", "()V"⟩ : MethodName) jdk_39_method_1_code 1 none :: ws) ({ frames := 2, cells := 0, slots := 0, locals := 24 } : Room)) (fun a U => a = #[(.ref r0)] ∧ Z.Warmed39 U.vm ∧ U.heap = h0) (fun _ _ _ _ _ => True) (fun _ U o U' => ∃ v L, o = .returned v ∧ Q8 Z r0 h0 n0 v U'.heap L ∧ FrameEnd U o U' L ({ frames := 2, cells := 0, slots := 0, locals := 24 } : Room).cells ({ frames := 2, cells := 0, slots := 0, locals := 24 } : Room).slots) := by
  refine MetFree.of_bodySF (plainFor_of_name own_pn4) hisR ?_
  intro p e s m args below meth c s₁ Bd hml0 hP hK
  obtain ⟨rfl, hZ, hh⟩ := hP
  have hx := Bd.exec
  have hby := Bd.bytes
  have hml : c.maxLocals = 1 := hml0
  have hown : s.vm.findClass "java/util/AbstractList" = some m.cls := findClass_of_methodNamed Bd.named
  have hnm := (name_of_methodNamed Bd.named Bd.method).1
  have X0 : Stand p l e ({ frames := 2, cells := 0, slots := 0, locals := 24 } : Room) s m #[(.ref r0)] below meth c s₁ [] 0 0 := Stand.of_body Bd
  have e0 : s₁.heap = h0 := by rw [← hh, Bd.state]; rfl
  have N0 := Fr.nil n0
  have KR : Keep h0 h0 [r0] := Keep.refl h0 _
  show Good p e below (fun o U' => ∃ v L, o = .returned v ∧ Q8 Z r0 h0 n0 v U'.heap L ∧ FrameEnd s o U' L ({ frames := 2, cells := 0, slots := 0, locals := 24 } : Room).cells ({ frames := 2, cells := 0, slots := 0, locals := 24 } : Room).slots) _
  refine Good.back (S' := s₁.setTop (mkF m 0 #[.val (.ref r0)] [])) (fun t k => castTop (own_ef_8 m r0) k) ?_
  show Good p e below _ (s₁.setTop (mkF m 0 #[.val (.ref r0)] []))
  refine Good.back (fun _ k => XS.aloadN X0.here hx rfl (hb hby own_d8_0) rfl rfl k) ?_
  show Good p e below _ (s₁.setTop (mkF m 1 #[.val (.ref r0)] [(.ref r0)]))
  obtain ⟨_, _, ⟨T1, L1, k1, n1⟩, -, X1, ⟨Lc1, hQ1, l1, y1, z1⟩, st1⟩ := X0.specialBack hx (y := (⟨"java/util/AbstractCollection", "<init>", "()V"⟩ : MethodName)) rfl hown (mvT hZ (hw _ (List.mem_of_getElem? (i := 42) rfl))) (mvT hZ (hw _ (List.mem_of_getElem? (i := 43) rfl))) (mvT hZ (hw _ (List.mem_of_getElem? (i := 47) rfl))) (by decide) (backOf (W := 0) (rm9 l Z a0 hw [] r0  h0 n0 Z0 ) hZ (hw _ (List.mem_of_getElem? (i := 47) rfl)) (hw _ (List.mem_of_getElem? (i := 46) rfl)) (by decide) (by decide)) (g := (mkF m 1 #[.val (.ref r0)] [(.ref r0)])) rfl (by rw [hml]; rfl) (Steps.refl _) (a := r0) (argsL := []) (rest := []) (lenOf own_pd84 rfl) rfl (by show 2 * 0 + _ ≤ _; exact Nat.le_of_eq rfl) (hb hby own_d8_1) (fun _ _ => ⟨rfl, e0, (by decide : 0 + 0 ≤ _), (by decide : 0 + 0 ≤ _)⟩)
  dsimp only [Pt.U, Pt.locs, Pt.cells, Pt.slots] at X1 l1 y1 z1 st1 hQ1
  subst l1 y1 z1
  obtain ⟨rfl, N1q, eh1⟩ := hQ1
  have N1 := Fr.app N0 N1q
  refine Good.back (fun _ k => st1.trans k) ?_
  show Good p e below _ (T1.setTop (mkF m 4 #[.val (.ref r0)] []))
  refine Good.back (fun _ k => XS.aloadN X1.here hx rfl (hb hby own_d8_4) rfl rfl k) ?_
  show Good p e below _ (T1.setTop (mkF m 5 #[.val (.ref r0)] [(.ref r0)]))
  refine Good.back (fun _ k => XS.iconst X1.here hx rfl (hb hby own_d8_5) k) ?_
  show Good p e below _ (T1.setTop (mkF m 6 #[.val (.ref r0)] [(.int (0 : Int32)), (.ref r0)]))
  obtain ⟨T2, h2, X2, e2, W2, st2⟩ := putF X1 hx hZ hown (host := "") (Or.inl (hw _ (List.mem_of_getElem? (i := 49) rfl))) Via.refl eh1 F_mod E0 (Or.inl (hw _ (List.mem_of_getElem? (i := 50) rfl))) (hw _ (List.mem_of_getElem? (i := 31) rfl)) (ty := .int) (by decide) rfl rfl (g := (mkF m 6 #[.val (.ref r0)] [(.int (0 : Int32)), (.ref r0)])) rfl rfl (hb hby own_d8_6)
  refine Good.back st2 ?_
  have f_3 : Fld Z h2 r0 "java/util/AbstractList" "modCount" "I" (.int (0 : Int32)) := Fld.same W2 F_mod
  have N2 := Fr.snoc X2 N1 g0
  have Z4 : n0 ≤ h2.size := Nat.le_trans Z0 (Keep.of_wr W2).1
  have K5 : Keep h0 h2 [r0] := KR.wr W2 (Or.inl (List.mem_of_getElem? (i := 0) rfl))
  show Good p e below _ (T2.setTop (mkF m 9 #[.val (.ref r0)] []))
  obtain ⟨fs6, hr6, hrun6, hended6, hW6, hsame6⟩ := X2.leave (v := none) (fun _ => rfl)
  refine Good.done (X2.returnOut hx Bd.returns (hb hby own_d8_9) hr6) hrun6 hended6 ⟨_, _, rfl, ?_, ⟨_, rfl⟩, hW6, hsame6.mono (by decide) (by decide)⟩
  show Q8 Z r0 h0 n0 _ T2.heap _
  rw [e2]
  have f_7 : Fld Z h2 r0 "java/util/ArrayList" "elementData" "[Ljava/lang/Object;" .null := Fld.other W2 F_ed (Or.inr (slot_ne (Or.inl (hw _ (List.mem_of_getElem? (i := 53) rfl))) (Or.inl (hw _ (List.mem_of_getElem? (i := 50) rfl))) (by decide) (t := (.array (.object "java/lang/Object"))) (t' := .int) (by decide) (by decide)))
  exact ⟨rfl, N2, K5, f_7⟩
theorem own_pn5 : plainName "java/util/ArrayList" = true := by first | (simp [plainName, overriddenIn]; done) | decide +kernel
theorem own_d7_0 : decode jdk_38_method_2_code 0 = .ok (.aload_n 0, 1) := by decide +kernel
theorem own_d7_1 : decode jdk_38_method_2_code 1 = .ok (.invokespecial 1, 3) := by decide +kernel
theorem own_d7_4 : decode jdk_38_method_2_code 4 = .ok (.aload_n 0, 1) := by decide +kernel
theorem own_d7_5 : decode jdk_38_method_2_code 5 = .ok (.getstatic 39, 3) := by decide +kernel
theorem own_d7_8 : decode jdk_38_method_2_code 8 = .ok (.putfield 9, 3) := by decide +kernel
theorem own_d7_11 : decode jdk_38_method_2_code 11 = .ok (.return_, 1) := by decide +kernel
theorem own_ef_7 (m : MethodId) (x0 : Addr) : entryFrame m #[(.ref x0)] 1 = mkF m 0 #[.val (.ref x0)] [] := by first | (simp [entryFrame, mkF, argsToLocals, Value.category]; done) | rfl
def Q7 (Z : State) (r0 : Addr) (de : Addr) (h0 : Heap) (n0 : Nat) (v : Option Value) (h : Heap) (L : List Loc) : Prop := v = none ∧ Fr n0 L ∧ Keep h0 h [r0]
set_option maxRecDepth 65536 in
set_option maxHeartbeats 40000000 in
theorem rm7 (l : Launch) (Z : State) (a0 : Array Value) (hw : ∀ d ∈ tables_1, d.before a0 Z = true) (ws : List Jvm.Cond) (r0 : Addr) (de : Addr) (h0 : Heap) (n0 : Nat) (Z0 : n0 ≤ h0.size) (E0 : Exa Z h0 r0 "java/util/ArrayList") (g0 : n0 ≤ r0) (F_mod : Fld Z h0 r0 "java/util/AbstractList" "modCount" "I" (.int (0 : Int32))) (F_ed : Fld Z h0 r0 "java/util/ArrayList" "elementData" "[Ljava/lang/Object;" .null) (S_de : Sta Z h0 "java/util/ArrayList" "DEFAULTCAPACITY_EMPTY_ELEMENTDATA" "[Ljava/lang/Object;" (.ref de)) :
    MetFree l (⟨"java/util/ArrayList", "<init>", "()V"⟩ : MethodName) (head1 (Jvm.Cond.code (⟨"java/util/ArrayList", "<init>", "()V"⟩ : MethodName) jdk_38_method_2_code 1 none :: ws) ({ frames := 3, cells := 0, slots := 0, locals := 36 } : Room)) (fun a U => a = #[(.ref r0)] ∧ Z.Warmed39 U.vm ∧ U.heap = h0) (fun _ _ _ _ _ => True) (fun _ U o U' => ∃ v L, o = .returned v ∧ Q7 Z r0 de h0 n0 v U'.heap L ∧ FrameEnd U o U' L ({ frames := 3, cells := 0, slots := 0, locals := 36 } : Room).cells ({ frames := 3, cells := 0, slots := 0, locals := 36 } : Room).slots) := by
  refine MetFree.of_bodySF (plainFor_of_name own_pn5) hisR ?_
  intro p e s m args below meth c s₁ Bd hml0 hP hK
  obtain ⟨rfl, hZ, hh⟩ := hP
  have hx := Bd.exec
  have hby := Bd.bytes
  have hml : c.maxLocals = 1 := hml0
  have hown : s.vm.findClass "java/util/ArrayList" = some m.cls := findClass_of_methodNamed Bd.named
  have hnm := (name_of_methodNamed Bd.named Bd.method).1
  have X0 : Stand p l e ({ frames := 3, cells := 0, slots := 0, locals := 36 } : Room) s m #[(.ref r0)] below meth c s₁ [] 0 0 := Stand.of_body Bd
  have e0 : s₁.heap = h0 := by rw [← hh, Bd.state]; rfl
  have N0 := Fr.nil n0
  have KR : Keep h0 h0 [r0] := Keep.refl h0 _
  show Good p e below (fun o U' => ∃ v L, o = .returned v ∧ Q7 Z r0 de h0 n0 v U'.heap L ∧ FrameEnd s o U' L ({ frames := 3, cells := 0, slots := 0, locals := 36 } : Room).cells ({ frames := 3, cells := 0, slots := 0, locals := 36 } : Room).slots) _
  refine Good.back (S' := s₁.setTop (mkF m 0 #[.val (.ref r0)] [])) (fun t k => castTop (own_ef_7 m r0) k) ?_
  show Good p e below _ (s₁.setTop (mkF m 0 #[.val (.ref r0)] []))
  refine Good.back (fun _ k => XS.aloadN X0.here hx rfl (hb hby own_d7_0) rfl rfl k) ?_
  show Good p e below _ (s₁.setTop (mkF m 1 #[.val (.ref r0)] [(.ref r0)]))
  obtain ⟨_, _, ⟨T1, L1, k1, n1⟩, -, X1, ⟨Lc1, hQ1, l1, y1, z1⟩, st1⟩ := X0.specialBack hx (y := (⟨"java/util/AbstractList", "<init>", "()V"⟩ : MethodName)) rfl hown (mvT hZ (hw _ (List.mem_of_getElem? (i := 36) rfl))) (mvT hZ (hw _ (List.mem_of_getElem? (i := 37) rfl))) (mvT hZ (hw _ (List.mem_of_getElem? (i := 41) rfl))) (by decide) (backOf (W := 0) (rm8 l Z a0 hw [] r0  h0 n0 Z0 E0 g0 F_mod F_ed) hZ (hw _ (List.mem_of_getElem? (i := 41) rfl)) (hw _ (List.mem_of_getElem? (i := 40) rfl)) (by decide) (by decide)) (g := (mkF m 1 #[.val (.ref r0)] [(.ref r0)])) rfl (by rw [hml]; rfl) (Steps.refl _) (a := r0) (argsL := []) (rest := []) (lenOf own_pd84 rfl) rfl (by show 2 * 0 + _ ≤ _; exact Nat.le_of_eq rfl) (hb hby own_d7_1) (fun _ _ => ⟨rfl, e0, (by decide : 0 + 0 ≤ _), (by decide : 0 + 0 ≤ _)⟩)
  dsimp only [Pt.U, Pt.locs, Pt.cells, Pt.slots] at X1 l1 y1 z1 st1 hQ1
  subst l1 y1 z1
  obtain ⟨rfl, N1q, Kq1, o1_0⟩ := hQ1
  have N1 := Fr.app N0 N1q
  have Z2 : n0 ≤ T1.heap.size := Nat.le_trans Z0 Kq1.1
  have K3 : Keep h0 T1.heap [r0] := KR.trans Kq1 (allS (Or.inl (List.mem_of_getElem? (i := 0) rfl)) all0)
  refine Good.back (fun _ k => st1.trans k) ?_
  show Good p e below _ (T1.setTop (mkF m 4 #[.val (.ref r0)] []))
  refine Good.back (fun _ k => XS.aloadN X1.here hx rfl (hb hby own_d7_4) rfl rfl k) ?_
  show Good p e below _ (T1.setTop (mkF m 5 #[.val (.ref r0)] [(.ref r0)]))
  have f_4 : Sta Z T1.heap "java/util/ArrayList" "DEFAULTCAPACITY_EMPTY_ELEMENTDATA" "[Ljava/lang/Object;" (.ref de) := own_staKeep S_de Kq1 (allS (own_plainE E0) all0)
  obtain ⟨T5, X5, e5, st5⟩ := getS2 X1 hx hZ hown (host := "") (Or.inl (hw _ (List.mem_of_getElem? (i := 51) rfl))) Via.refl rfl f_4 (g := (mkF m 5 #[.val (.ref r0)] [(.ref r0)])) rfl (hb hby own_d7_5)
  refine Good.back st5 ?_
  show Good p e below _ (T5.setTop (mkF m 8 #[.val (.ref r0)] [(.ref de), (.ref r0)]))
  have f_6 : Exa Z T1.heap r0 "java/util/ArrayList" := Exa.keep E0 Kq1
  obtain ⟨T7, h7, X7, e7, W7, st7⟩ := putF X5 hx hZ hown (host := "") (Or.inl (hw _ (List.mem_of_getElem? (i := 52) rfl))) Via.refl e5 o1_0 f_6 (Or.inl (hw _ (List.mem_of_getElem? (i := 53) rfl))) (hw _ (List.mem_of_getElem? (i := 31) rfl)) (ty := (.array (.object "java/lang/Object"))) (by decide) rfl rfl (g := (mkF m 8 #[.val (.ref r0)] [(.ref de), (.ref r0)])) rfl rfl (hb hby own_d7_8)
  refine Good.back st7 ?_
  have f_8 : Fld Z h7 r0 "java/util/ArrayList" "elementData" "[Ljava/lang/Object;" (.ref de) := Fld.same W7 o1_0
  have N7 := Fr.snoc X7 N1 g0
  have Z9 : n0 ≤ h7.size := Nat.le_trans Z2 (Keep.of_wr W7).1
  have K10 : Keep h0 h7 [r0] := K3.wr W7 (Or.inl (List.mem_of_getElem? (i := 0) rfl))
  show Good p e below _ (T7.setTop (mkF m 11 #[.val (.ref r0)] []))
  obtain ⟨fs11, hr11, hrun11, hended11, hW11, hsame11⟩ := X7.leave (v := none) (fun _ => rfl)
  refine Good.done (X7.returnOut hx Bd.returns (hb hby own_d7_11) hr11) hrun11 hended11 ⟨_, _, rfl, ?_, ⟨_, rfl⟩, hW11, hsame11.mono (by decide) (by decide)⟩
  show Q7 Z r0 de h0 n0 _ T7.heap _
  rw [e7]
  exact ⟨rfl, N7, K10⟩
theorem own_pn6 : plainName "com/example/vartija/vartija/protocol/CreateRequest" = true := by first | (simp [plainName, overriddenIn]; done) | decide +kernel
theorem own_d10_0 : decode prog_30_method_1_code 0 = .ok (.aload_n 0, 1) := by decide +kernel
theorem own_d10_1 : decode prog_30_method_1_code 1 = .ok (.invokespecial 1, 3) := by decide +kernel
theorem own_d10_4 : decode prog_30_method_1_code 4 = .ok (.aload_n 0, 1) := by decide +kernel
theorem own_d10_5 : decode prog_30_method_1_code 5 = .ok (.aload_n 1, 1) := by decide +kernel
theorem own_d10_6 : decode prog_30_method_1_code 6 = .ok (.putfield 7, 3) := by decide +kernel
theorem own_d10_9 : decode prog_30_method_1_code 9 = .ok (.aload_n 0, 1) := by decide +kernel
theorem own_d10_10 : decode prog_30_method_1_code 10 = .ok (.aload_n 2, 1) := by decide +kernel
theorem own_d10_11 : decode prog_30_method_1_code 11 = .ok (.putfield 13, 3) := by decide +kernel
theorem own_d10_14 : decode prog_30_method_1_code 14 = .ok (.aload_n 0, 1) := by decide +kernel
theorem own_d10_15 : decode prog_30_method_1_code 15 = .ok (.aload_n 3, 1) := by decide +kernel
theorem own_d10_16 : decode prog_30_method_1_code 16 = .ok (.putfield 17, 3) := by decide +kernel
theorem own_d10_19 : decode prog_30_method_1_code 19 = .ok (.aload_n 0, 1) := by decide +kernel
theorem own_d10_20 : decode prog_30_method_1_code 20 = .ok (.iload 4, 2) := by decide +kernel
theorem own_d10_22 : decode prog_30_method_1_code 22 = .ok (.putfield 21, 3) := by decide +kernel
theorem own_d10_25 : decode prog_30_method_1_code 25 = .ok (.return_, 1) := by decide +kernel
theorem own_ef_10 (m : MethodId) (x0 : Addr) (x1 : Addr) (x2 : Addr) (x3 : Addr) (x4 : Int32) : entryFrame m #[(.ref x0), (.ref x1), (.ref x2), (.ref x3), (.int x4)] 5 = mkF m 0 #[.val (.ref x0), .val (.ref x1), .val (.ref x2), .val (.ref x3), .val (.int x4)] [] := by first | (simp [entryFrame, mkF, argsToLocals, Value.category]; done) | rfl
def Q10 (Z : State) (r0 : Addr) (r1 : Addr) (r2 : Addr) (r3 : Addr) (p4 : Int32) (h0 : Heap) (n0 : Nat) (v : Option Value) (h : Heap) (L : List Loc) : Prop := v = none ∧ Fr n0 L ∧ Keep h0 h [r0] ∧ Fld Z h r0 "com/example/vartija/vartija/protocol/CreateRequest" "flags" "I" (.int p4)
set_option maxRecDepth 65536 in
set_option maxHeartbeats 40000000 in
theorem rm10 (l : Launch) (Z : State) (a0 : Array Value) (hw : ∀ d ∈ tables_1, d.before a0 Z = true) (ws : List Jvm.Cond) (r0 : Addr) (r1 : Addr) (r2 : Addr) (r3 : Addr) (p4 : Int32) (h0 : Heap) (n0 : Nat) (Z0 : n0 ≤ h0.size) (E0 : Exa Z h0 r0 "com/example/vartija/vartija/protocol/CreateRequest") (g0 : n0 ≤ r0) (F_path : Fld Z h0 r0 "com/example/vartija/vartija/protocol/CreateRequest" "path" "Ljava/lang/String;" .null) (F_data : Fld Z h0 r0 "com/example/vartija/vartija/protocol/CreateRequest" "data" "[B" .null) (F_acl : Fld Z h0 r0 "com/example/vartija/vartija/protocol/CreateRequest" "acl" "Ljava/util/List;" .null) (F_flags : Fld Z h0 r0 "com/example/vartija/vartija/protocol/CreateRequest" "flags" "I" (.int (0 : Int32))) :
    MetFree l (⟨"com/example/vartija/vartija/protocol/CreateRequest", "<init>", "(Ljava/lang/String;[BLjava/util/List;I)V"⟩ : MethodName) (head1 (Jvm.Cond.code (⟨"com/example/vartija/vartija/protocol/CreateRequest", "<init>", "(Ljava/lang/String;[BLjava/util/List;I)V"⟩ : MethodName) prog_30_method_1_code 5 none :: ws) ({ frames := 2, cells := 0, slots := 0, locals := 24 } : Room)) (fun a U => a = #[(.ref r0), (.ref r1), (.ref r2), (.ref r3), (.int p4)] ∧ Z.Warmed39 U.vm ∧ U.heap = h0) (fun _ _ _ _ _ => True) (fun _ U o U' => ∃ v L, o = .returned v ∧ Q10 Z r0 r1 r2 r3 p4 h0 n0 v U'.heap L ∧ FrameEnd U o U' L ({ frames := 2, cells := 0, slots := 0, locals := 24 } : Room).cells ({ frames := 2, cells := 0, slots := 0, locals := 24 } : Room).slots) := by
  refine MetFree.of_bodySF (plainFor_of_name own_pn6) hisR ?_
  intro p e s m args below meth c s₁ Bd hml0 hP hK
  obtain ⟨rfl, hZ, hh⟩ := hP
  have hx := Bd.exec
  have hby := Bd.bytes
  have hml : c.maxLocals = 5 := hml0
  have hown : s.vm.findClass "com/example/vartija/vartija/protocol/CreateRequest" = some m.cls := findClass_of_methodNamed Bd.named
  have hnm := (name_of_methodNamed Bd.named Bd.method).1
  have X0 : Stand p l e ({ frames := 2, cells := 0, slots := 0, locals := 24 } : Room) s m #[(.ref r0), (.ref r1), (.ref r2), (.ref r3), (.int p4)] below meth c s₁ [] 0 0 := Stand.of_body Bd
  have e0 : s₁.heap = h0 := by rw [← hh, Bd.state]; rfl
  have N0 := Fr.nil n0
  have KR : Keep h0 h0 [r0] := Keep.refl h0 _
  show Good p e below (fun o U' => ∃ v L, o = .returned v ∧ Q10 Z r0 r1 r2 r3 p4 h0 n0 v U'.heap L ∧ FrameEnd s o U' L ({ frames := 2, cells := 0, slots := 0, locals := 24 } : Room).cells ({ frames := 2, cells := 0, slots := 0, locals := 24 } : Room).slots) _
  refine Good.back (S' := s₁.setTop (mkF m 0 #[.val (.ref r0), .val (.ref r1), .val (.ref r2), .val (.ref r3), .val (.int p4)] [])) (fun t k => castTop (own_ef_10 m r0 r1 r2 r3 p4) k) ?_
  show Good p e below _ (s₁.setTop (mkF m 0 #[.val (.ref r0), .val (.ref r1), .val (.ref r2), .val (.ref r3), .val (.int p4)] []))
  refine Good.back (fun _ k => XS.aloadN X0.here hx rfl (hb hby own_d10_0) rfl rfl k) ?_
  show Good p e below _ (s₁.setTop (mkF m 1 #[.val (.ref r0), .val (.ref r1), .val (.ref r2), .val (.ref r3), .val (.int p4)] [(.ref r0)]))
  obtain ⟨_, _, ⟨T1, L1, k1, n1⟩, -, X1, ⟨Lc1, hQ1, l1, y1, z1⟩, st1⟩ := X0.specialBack hx (y := (⟨"java/lang/Record", "<init>", "()V"⟩ : MethodName)) rfl hown (mvT hZ (hw _ (List.mem_of_getElem? (i := 60) rfl))) (mvT hZ (hw _ (List.mem_of_getElem? (i := 61) rfl))) (mvT hZ (hw _ (List.mem_of_getElem? (i := 64) rfl))) (by decide) (backOf (W := 0) (rm11 l Z a0 hw [] r0  h0 n0 Z0 ) hZ (hw _ (List.mem_of_getElem? (i := 64) rfl)) (hw _ (List.mem_of_getElem? (i := 63) rfl)) (by decide) (by decide)) (g := (mkF m 1 #[.val (.ref r0), .val (.ref r1), .val (.ref r2), .val (.ref r3), .val (.int p4)] [(.ref r0)])) rfl (by rw [hml]; rfl) (Steps.refl _) (a := r0) (argsL := []) (rest := []) (lenOf own_pd84 rfl) rfl (by show 2 * 0 + _ ≤ _; exact Nat.le_of_eq rfl) (hb hby own_d10_1) (fun _ _ => ⟨rfl, e0, (by decide : 0 + 0 ≤ _), (by decide : 0 + 0 ≤ _)⟩)
  dsimp only [Pt.U, Pt.locs, Pt.cells, Pt.slots] at X1 l1 y1 z1 st1 hQ1
  subst l1 y1 z1
  obtain ⟨rfl, N1q, eh1⟩ := hQ1
  have N1 := Fr.app N0 N1q
  refine Good.back (fun _ k => st1.trans k) ?_
  show Good p e below _ (T1.setTop (mkF m 4 #[.val (.ref r0), .val (.ref r1), .val (.ref r2), .val (.ref r3), .val (.int p4)] []))
  refine Good.back (fun _ k => XS.aloadN X1.here hx rfl (hb hby own_d10_4) rfl rfl k) ?_
  show Good p e below _ (T1.setTop (mkF m 5 #[.val (.ref r0), .val (.ref r1), .val (.ref r2), .val (.ref r3), .val (.int p4)] [(.ref r0)]))
  refine Good.back (fun _ k => XS.aloadN X1.here hx rfl (hb hby own_d10_5) rfl rfl k) ?_
  show Good p e below _ (T1.setTop (mkF m 6 #[.val (.ref r0), .val (.ref r1), .val (.ref r2), .val (.ref r3), .val (.int p4)] [(.ref r1), (.ref r0)]))
  obtain ⟨T2, h2, X2, e2, W2, st2⟩ := putF X1 hx hZ hown (host := "") (Or.inl (hw _ (List.mem_of_getElem? (i := 66) rfl))) Via.refl eh1 F_path E0 (Or.inr ⟨(hw _ (List.mem_of_getElem? (i := 67) rfl)), rfl, hnm⟩) (hw _ (List.mem_of_getElem? (i := 55) rfl)) (ty := (.object "java/lang/String")) (by decide) rfl rfl (g := (mkF m 6 #[.val (.ref r0), .val (.ref r1), .val (.ref r2), .val (.ref r3), .val (.int p4)] [(.ref r1), (.ref r0)])) rfl rfl (hb hby own_d10_6)
  refine Good.back st2 ?_
  have f_3 : Fld Z h2 r0 "com/example/vartija/vartija/protocol/CreateRequest" "path" "Ljava/lang/String;" (.ref r1) := Fld.same W2 F_path
  have N2 := Fr.snoc X2 N1 g0
  have Z4 : n0 ≤ h2.size := Nat.le_trans Z0 (Keep.of_wr W2).1
  have K5 : Keep h0 h2 [r0] := KR.wr W2 (Or.inl (List.mem_of_getElem? (i := 0) rfl))
  show Good p e below _ (T2.setTop (mkF m 9 #[.val (.ref r0), .val (.ref r1), .val (.ref r2), .val (.ref r3), .val (.int p4)] []))
  refine Good.back (fun _ k => XS.aloadN X2.here hx rfl (hb hby own_d10_9) rfl rfl k) ?_
  show Good p e below _ (T2.setTop (mkF m 10 #[.val (.ref r0), .val (.ref r1), .val (.ref r2), .val (.ref r3), .val (.int p4)] [(.ref r0)]))
  refine Good.back (fun _ k => XS.aloadN X2.here hx rfl (hb hby own_d10_10) rfl rfl k) ?_
  show Good p e below _ (T2.setTop (mkF m 11 #[.val (.ref r0), .val (.ref r1), .val (.ref r2), .val (.ref r3), .val (.int p4)] [(.ref r2), (.ref r0)]))
  have f_6 : Fld Z h2 r0 "com/example/vartija/vartija/protocol/CreateRequest" "data" "[B" .null := Fld.other W2 F_data (Or.inr (slot_ne (Or.inr (hw _ (List.mem_of_getElem? (i := 69) rfl))) (Or.inr (hw _ (List.mem_of_getElem? (i := 67) rfl))) (by decide) (t := (.array .byte)) (t' := (.object "java/lang/String")) (by decide) (by decide)))
  have f_7 : Exa Z h2 r0 "com/example/vartija/vartija/protocol/CreateRequest" := Exa.wr W2 E0
  obtain ⟨T8, h8, X8, e8, W8, st8⟩ := putF X2 hx hZ hown (host := "") (Or.inl (hw _ (List.mem_of_getElem? (i := 68) rfl))) Via.refl e2 f_6 f_7 (Or.inr ⟨(hw _ (List.mem_of_getElem? (i := 69) rfl)), rfl, hnm⟩) (hw _ (List.mem_of_getElem? (i := 55) rfl)) (ty := (.array .byte)) (by decide) rfl rfl (g := (mkF m 11 #[.val (.ref r0), .val (.ref r1), .val (.ref r2), .val (.ref r3), .val (.int p4)] [(.ref r2), (.ref r0)])) rfl rfl (hb hby own_d10_11)
  refine Good.back st8 ?_
  have f_9 : Fld Z h8 r0 "com/example/vartija/vartija/protocol/CreateRequest" "data" "[B" (.ref r2) := Fld.same W8 f_6
  have N8 := Fr.snoc X8 N2 g0
  have Z10 : n0 ≤ h8.size := Nat.le_trans Z4 (Keep.of_wr W8).1
  have K11 : Keep h0 h8 [r0] := K5.wr W8 (Or.inl (List.mem_of_getElem? (i := 0) rfl))
  show Good p e below _ (T8.setTop (mkF m 14 #[.val (.ref r0), .val (.ref r1), .val (.ref r2), .val (.ref r3), .val (.int p4)] []))
  refine Good.back (fun _ k => XS.aloadN X8.here hx rfl (hb hby own_d10_14) rfl rfl k) ?_
  show Good p e below _ (T8.setTop (mkF m 15 #[.val (.ref r0), .val (.ref r1), .val (.ref r2), .val (.ref r3), .val (.int p4)] [(.ref r0)]))
  refine Good.back (fun _ k => XS.aloadN X8.here hx rfl (hb hby own_d10_15) rfl rfl k) ?_
  show Good p e below _ (T8.setTop (mkF m 16 #[.val (.ref r0), .val (.ref r1), .val (.ref r2), .val (.ref r3), .val (.int p4)] [(.ref r3), (.ref r0)]))
  have f_12 : Fld Z h2 r0 "com/example/vartija/vartija/protocol/CreateRequest" "acl" "Ljava/util/List;" .null := Fld.other W2 F_acl (Or.inr (slot_ne (Or.inr (hw _ (List.mem_of_getElem? (i := 71) rfl))) (Or.inr (hw _ (List.mem_of_getElem? (i := 67) rfl))) (by decide) (t := (.object "java/util/List")) (t' := (.object "java/lang/String")) (by decide) (by decide)))
  have f_13 : Fld Z h8 r0 "com/example/vartija/vartija/protocol/CreateRequest" "acl" "Ljava/util/List;" .null := Fld.other W8 f_12 (Or.inr (slot_ne (Or.inr (hw _ (List.mem_of_getElem? (i := 71) rfl))) (Or.inr (hw _ (List.mem_of_getElem? (i := 69) rfl))) (by decide) (t := (.object "java/util/List")) (t' := (.array .byte)) (by decide) (by decide)))
  have f_14 : Exa Z h8 r0 "com/example/vartija/vartija/protocol/CreateRequest" := Exa.wr W8 f_7
  obtain ⟨T15, h15, X15, e15, W15, st15⟩ := putF X8 hx hZ hown (host := "") (Or.inl (hw _ (List.mem_of_getElem? (i := 70) rfl))) Via.refl e8 f_13 f_14 (Or.inr ⟨(hw _ (List.mem_of_getElem? (i := 71) rfl)), rfl, hnm⟩) (hw _ (List.mem_of_getElem? (i := 55) rfl)) (ty := (.object "java/util/List")) (by decide) rfl rfl (g := (mkF m 16 #[.val (.ref r0), .val (.ref r1), .val (.ref r2), .val (.ref r3), .val (.int p4)] [(.ref r3), (.ref r0)])) rfl rfl (hb hby own_d10_16)
  refine Good.back st15 ?_
  have f_16 : Fld Z h15 r0 "com/example/vartija/vartija/protocol/CreateRequest" "acl" "Ljava/util/List;" (.ref r3) := Fld.same W15 f_13
  have N15 := Fr.snoc X15 N8 g0
  have Z17 : n0 ≤ h15.size := Nat.le_trans Z10 (Keep.of_wr W15).1
  have K18 : Keep h0 h15 [r0] := K11.wr W15 (Or.inl (List.mem_of_getElem? (i := 0) rfl))
  show Good p e below _ (T15.setTop (mkF m 19 #[.val (.ref r0), .val (.ref r1), .val (.ref r2), .val (.ref r3), .val (.int p4)] []))
  refine Good.back (fun _ k => XS.aloadN X15.here hx rfl (hb hby own_d10_19) rfl rfl k) ?_
  show Good p e below _ (T15.setTop (mkF m 20 #[.val (.ref r0), .val (.ref r1), .val (.ref r2), .val (.ref r3), .val (.int p4)] [(.ref r0)]))
  refine Good.back (fun _ k => XS.iload X15.here hx rfl (hb hby own_d10_20) rfl k) ?_
  show Good p e below _ (T15.setTop (mkF m 22 #[.val (.ref r0), .val (.ref r1), .val (.ref r2), .val (.ref r3), .val (.int p4)] [(.int p4), (.ref r0)]))
  have f_19 : Fld Z h2 r0 "com/example/vartija/vartija/protocol/CreateRequest" "flags" "I" (.int (0 : Int32)) := Fld.other W2 F_flags (Or.inr (slot_ne (Or.inr (hw _ (List.mem_of_getElem? (i := 73) rfl))) (Or.inr (hw _ (List.mem_of_getElem? (i := 67) rfl))) (by decide) (t := .int) (t' := (.object "java/lang/String")) (by decide) (by decide)))
  have f_20 : Fld Z h8 r0 "com/example/vartija/vartija/protocol/CreateRequest" "flags" "I" (.int (0 : Int32)) := Fld.other W8 f_19 (Or.inr (slot_ne (Or.inr (hw _ (List.mem_of_getElem? (i := 73) rfl))) (Or.inr (hw _ (List.mem_of_getElem? (i := 69) rfl))) (by decide) (t := .int) (t' := (.array .byte)) (by decide) (by decide)))
  have f_21 : Fld Z h15 r0 "com/example/vartija/vartija/protocol/CreateRequest" "flags" "I" (.int (0 : Int32)) := Fld.other W15 f_20 (Or.inr (slot_ne (Or.inr (hw _ (List.mem_of_getElem? (i := 73) rfl))) (Or.inr (hw _ (List.mem_of_getElem? (i := 71) rfl))) (by decide) (t := .int) (t' := (.object "java/util/List")) (by decide) (by decide)))
  have f_22 : Exa Z h15 r0 "com/example/vartija/vartija/protocol/CreateRequest" := Exa.wr W15 f_14
  obtain ⟨T23, h23, X23, e23, W23, st23⟩ := putF X15 hx hZ hown (host := "") (Or.inl (hw _ (List.mem_of_getElem? (i := 72) rfl))) Via.refl e15 f_21 f_22 (Or.inr ⟨(hw _ (List.mem_of_getElem? (i := 73) rfl)), rfl, hnm⟩) (hw _ (List.mem_of_getElem? (i := 55) rfl)) (ty := .int) (by decide) rfl rfl (g := (mkF m 22 #[.val (.ref r0), .val (.ref r1), .val (.ref r2), .val (.ref r3), .val (.int p4)] [(.int p4), (.ref r0)])) rfl rfl (hb hby own_d10_22)
  refine Good.back st23 ?_
  have f_24 : Fld Z h23 r0 "com/example/vartija/vartija/protocol/CreateRequest" "flags" "I" (.int p4) := Fld.same W23 f_21
  have N23 := Fr.snoc X23 N15 g0
  have Z25 : n0 ≤ h23.size := Nat.le_trans Z17 (Keep.of_wr W23).1
  have K26 : Keep h0 h23 [r0] := K18.wr W23 (Or.inl (List.mem_of_getElem? (i := 0) rfl))
  show Good p e below _ (T23.setTop (mkF m 25 #[.val (.ref r0), .val (.ref r1), .val (.ref r2), .val (.ref r3), .val (.int p4)] []))
  obtain ⟨fs27, hr27, hrun27, hended27, hW27, hsame27⟩ := X23.leave (v := none) (fun _ => rfl)
  refine Good.done (X23.returnOut hx Bd.returns (hb hby own_d10_25) hr27) hrun27 hended27 ⟨_, _, rfl, ?_, ⟨_, rfl⟩, hW27, hsame27.mono (by decide) (by decide)⟩
  show Q10 Z r0 r1 r2 r3 p4 h0 n0 _ T23.heap _
  rw [e23]
  exact ⟨rfl, N23, K26, f_24⟩
theorem own_d12_0 : decode prog_30_method_4_code 0 = .ok (.aload_n 0, 1) := by decide +kernel
theorem own_d12_1 : decode prog_30_method_4_code 1 = .ok (.getfield 21, 3) := by decide +kernel
theorem own_d12_4 : decode prog_30_method_4_code 4 = .ok (.iconst 1, 1) := by decide +kernel
theorem own_d12_5 : decode prog_30_method_4_code 5 = .ok (.iand, 1) := by decide +kernel
theorem own_d12_6 : decode prog_30_method_4_code 6 = .ok (.ifCond .eq 7, 3) := by decide +kernel
theorem own_d12_9 : decode prog_30_method_4_code 9 = .ok (.iconst 1, 1) := by decide +kernel
theorem own_d12_10 : decode prog_30_method_4_code 10 = .ok (.goto 4, 3) := by decide +kernel
theorem own_d12_13 : decode prog_30_method_4_code 13 = .ok (.iconst 0, 1) := by decide +kernel
theorem own_d12_14 : decode prog_30_method_4_code 14 = .ok (.ireturn, 1) := by decide +kernel
theorem own_ef_12 (m : MethodId) (x0 : Addr) : entryFrame m #[(.ref x0)] 1 = mkF m 0 #[.val (.ref x0)] [] := by first | (simp [entryFrame, mkF, argsToLocals, Value.category]; done) | rfl
def Q12 (Z : State) (r0 : Addr) (w : Int32) (h0 : Heap) (n0 : Nat) (v : Option Value) (h : Heap) (L : List Loc) : Prop := v = some (.int (if (w &&& 1) = 0 then (0 : Int32) else (1 : Int32))) ∧ Fr n0 L ∧ h = h0
set_option maxRecDepth 65536 in
set_option maxHeartbeats 40000000 in
theorem rm12 (l : Launch) (Z : State) (a0 : Array Value) (hw : ∀ d ∈ tables_1, d.before a0 Z = true) (ws : List Jvm.Cond) (r0 : Addr) (w : Int32) (h0 : Heap) (n0 : Nat) (Z0 : n0 ≤ h0.size) (F_flags : Fld Z h0 r0 "com/example/vartija/vartija/protocol/CreateRequest" "flags" "I" (.int w)) :
    MetFree l (⟨"com/example/vartija/vartija/protocol/CreateRequest", "ephemeral", "()Z"⟩ : MethodName) (head1 (Jvm.Cond.code (⟨"com/example/vartija/vartija/protocol/CreateRequest", "ephemeral", "()Z"⟩ : MethodName) prog_30_method_4_code 1 (some .boolean) :: ws) ({ frames := 0, cells := 0, slots := 0, locals := 0 } : Room)) (fun a U => a = #[(.ref r0)] ∧ Z.Warmed39 U.vm ∧ U.heap = h0) (fun _ _ _ _ _ => True) (fun _ U o U' => ∃ v L, o = .returned v ∧ Q12 Z r0 w h0 n0 v U'.heap L ∧ FrameEnd U o U' L ({ frames := 0, cells := 0, slots := 0, locals := 0 } : Room).cells ({ frames := 0, cells := 0, slots := 0, locals := 0 } : Room).slots) := by
  refine MetFree.of_bodySF (plainFor_of_name own_pn6) hisR ?_
  intro p e s m args below meth c s₁ Bd hml0 hP hK
  obtain ⟨rfl, hZ, hh⟩ := hP
  have hx := Bd.exec
  have hby := Bd.bytes
  have hml : c.maxLocals = 1 := hml0
  have hown : s.vm.findClass "com/example/vartija/vartija/protocol/CreateRequest" = some m.cls := findClass_of_methodNamed Bd.named
  have hnm := (name_of_methodNamed Bd.named Bd.method).1
  have X0 : Stand p l e ({ frames := 0, cells := 0, slots := 0, locals := 0 } : Room) s m #[(.ref r0)] below meth c s₁ [] 0 0 := Stand.of_body Bd
  have e0 : s₁.heap = h0 := by rw [← hh, Bd.state]; rfl
  have N0 := Fr.nil n0
  show Good p e below (fun o U' => ∃ v L, o = .returned v ∧ Q12 Z r0 w h0 n0 v U'.heap L ∧ FrameEnd s o U' L ({ frames := 0, cells := 0, slots := 0, locals := 0 } : Room).cells ({ frames := 0, cells := 0, slots := 0, locals := 0 } : Room).slots) _
  refine Good.back (S' := s₁.setTop (mkF m 0 #[.val (.ref r0)] [])) (fun t k => castTop (own_ef_12 m r0) k) ?_
  show Good p e below _ (s₁.setTop (mkF m 0 #[.val (.ref r0)] []))
  refine Good.back (fun _ k => XS.aloadN X0.here hx rfl (hb hby own_d12_0) rfl rfl k) ?_
  show Good p e below _ (s₁.setTop (mkF m 1 #[.val (.ref r0)] [(.ref r0)]))
  obtain ⟨T1, X1, e1, st1⟩ := getF X0 hx hZ hown (host := "") (Or.inl (hw _ (List.mem_of_getElem? (i := 72) rfl))) Via.refl e0 F_flags (g := (mkF m 1 #[.val (.ref r0)] [(.ref r0)])) rfl rfl (hb hby own_d12_1)
  refine Good.back st1 ?_
  show Good p e below _ (T1.setTop (mkF m 4 #[.val (.ref r0)] [(.int w)]))
  refine Good.back (fun _ k => XS.iconst X1.here hx rfl (hb hby own_d12_4) k) ?_
  show Good p e below _ (T1.setTop (mkF m 5 #[.val (.ref r0)] [(.int (1 : Int32)), (.int w)]))
  refine Good.back (fun _ k => XS.iand X1.here hx rfl (hb hby own_d12_5) rfl k) ?_
  show Good p e below _ (T1.setTop (mkF m 6 #[.val (.ref r0)] [(.int (w &&& (1 : Int32)))]))
  by_cases hc6_2 : (w &&& (1 : Int32)) = (0 : Int32)
  · refine Good.back (fun _ k => XS.ifYes X1.here hx rfl (pc0 := 6) (pc' := 13) rfl (hb hby own_d12_6) rfl ((if0 _ _).trans (teq hc6_2).1) (by decide) (by decide) k) ?_
    show Good p e below _ (T1.setTop (mkF m 13 #[.val (.ref r0)] []))
    refine Good.back (fun _ k => XS.iconst X1.here hx rfl (hb hby own_d12_13) k) ?_
    show Good p e below _ (T1.setTop (mkF m 14 #[.val (.ref r0)] [(.int (0 : Int32))]))
    obtain ⟨fs3, hr3, hrun3, hended3, hW3, hsame3⟩ := X1.leave (v := some (.int (0 : Int32))) (fun h => by rw [Bd.returns] at h; cases h)
    refine Good.done (retN X1 hx (t := .boolean) Bd.returns (by simp) (hb hby own_d12_14) hr3) hrun3 hended3 ⟨_, _, rfl, ?_, ⟨_, rfl⟩, hW3, hsame3.mono (by decide) (by decide)⟩
    show Q12 Z r0 w h0 n0 _ T1.heap _
    rw [e1]
    exact ⟨by rw [if_pos hc6_2], N0, rfl⟩
  · refine Good.back (fun _ k => XS.ifNo X1.here hx rfl (hb hby own_d12_6) rfl ((if0 _ _).trans (feq hc6_2).1) k) ?_
    show Good p e below _ (T1.setTop (mkF m 9 #[.val (.ref r0)] []))
    refine Good.back (fun _ k => XS.iconst X1.here hx rfl (hb hby own_d12_9) k) ?_
    show Good p e below _ (T1.setTop (mkF m 10 #[.val (.ref r0)] [(.int (1 : Int32))]))
    refine Good.back (fun _ k => XS.goto X1.here hx rfl (pc0 := 10) (pc' := 14) rfl (hb hby own_d12_10) (by decide) (by decide) k) ?_
    show Good p e below _ (T1.setTop (mkF m 14 #[.val (.ref r0)] [(.int (1 : Int32))]))
    obtain ⟨fs4, hr4, hrun4, hended4, hW4, hsame4⟩ := X1.leave (v := some (.int (1 : Int32))) (fun h => by rw [Bd.returns] at h; cases h)
    refine Good.done (retN X1 hx (t := .boolean) Bd.returns (by simp) (hb hby own_d12_14) hr4) hrun4 hended4 ⟨_, _, rfl, ?_, ⟨_, rfl⟩, hW4, hsame4.mono (by decide) (by decide)⟩
    show Q12 Z r0 w h0 n0 _ T1.heap _
    rw [e1]
    exact ⟨by rw [if_neg hc6_2], N0, rfl⟩
theorem own_pd121 : parseMethodDescriptor "([C)V" = some ⟨[(.array .char)], none⟩ := by decide +kernel
theorem own_pd122 : parseMethodDescriptor "(Ljava/lang/String;[BLjava/util/List;I)V" = some ⟨[(.object "java/lang/String"), (.array .byte), (.object "java/util/List"), .int], none⟩ := by decide +kernel
theorem own_pd123 : parseMethodDescriptor "()Z" = some ⟨[], some .boolean⟩ := by decide +kernel
theorem own_pn7 : plainName "com/example/vartija/vartija/protocol/CreateRequestEphemeralPinLaw" = true := by first | (simp [plainName, overriddenIn]; done) | decide +kernel
theorem own_ef_0 (m : MethodId) (x0 : Int32) (x1 : Int32) : entryFrame m #[(.int x0), (.int x1)] maxLocals = mkF m 0 #[.val (.int x0), .val (.int x1), .unset, .unset, .unset, .unset, .unset, .unset, .unset, .unset, .unset, .unset, .unset] [] := by first | (simp [entryFrame, mkF, argsToLocals, Value.category, maxLocals]; done) | rfl
def Q0 (Z : State) (p0 : Int32) (p1 : Int32) (cs : Int32) (de : Addr) (h0 : Heap) (n0 : Nat) (v : Option Value) (h : Heap) (L : List Loc) : Prop := v = some (.int 1) ∧ Fr n0 L
set_option maxRecDepth 65536 in
set_option maxHeartbeats 40000000 in
theorem rm0 (l : Launch) (Z : State) (a0 : Array Value) (hw : ∀ d ∈ tables_1, d.before a0 Z = true) (ws : List Jvm.Cond) (p0 : Int32) (p1 : Int32) (cs : Int32) (de : Addr) (h0 : Heap) (n0 : Nat) (Z0 : n0 ≤ h0.size) (S_cs : Sta Z h0 "java/lang/String" "COMPACT_STRINGS" "Z" (.int cs)) (hcs : ¬ (cs = (0 : Int32))) (S_de : Sta Z h0 "java/util/ArrayList" "DEFAULTCAPACITY_EMPTY_ELEMENTDATA" "[Ljava/lang/Object;" (.ref de)) :
    MetFree l x (head1 (Jvm.Cond.code x code maxLocals ret :: ws) room_1) (fun a U => a = #[(.int p0), (.int p1)] ∧ Z.Warmed39 U.vm ∧ U.heap = h0) (fun _ _ _ _ _ => True) (fun _ U o U' => ∃ v L, o = .returned v ∧ Q0 Z p0 p1 cs de h0 n0 v U'.heap L ∧ FrameEnd U o U' L 32 128) := by
  refine MetFree.of_bodySF (plainFor_of_name own_pn7) hisR ?_
  intro p e s m args below meth c s₁ Bd hml0 hP hK
  obtain ⟨rfl, hZ, hh⟩ := hP
  have hx := Bd.exec
  have hby := Bd.bytes
  have hml : c.maxLocals = 13 := hml0
  have hown : s.vm.findClass "com/example/vartija/vartija/protocol/CreateRequestEphemeralPinLaw" = some m.cls := findClass_of_methodNamed Bd.named
  have hnm := (name_of_methodNamed Bd.named Bd.method).1
  have X0 : Stand p l e room_1 s m #[(.int p0), (.int p1)] below meth c s₁ [] 0 0 := Stand.of_body Bd
  have e0 : s₁.heap = h0 := by rw [← hh, Bd.state]; rfl
  have N0 := Fr.nil n0
  show Good p e below (fun o U' => ∃ v L, o = .returned v ∧ Q0 Z p0 p1 cs de h0 n0 v U'.heap L ∧ FrameEnd s o U' L 32 128) _
  refine Good.back (S' := s₁.setTop (mkF m 0 #[.val (.int p0), .val (.int p1), .unset, .unset, .unset, .unset, .unset, .unset, .unset, .unset, .unset, .unset, .unset] [])) (fun t k => castTop (own_ef_0 m p0 p1) k) ?_
  show Good p e below _ (s₁.setTop (mkF m 0 #[.val (.int p0), .val (.int p1), .unset, .unset, .unset, .unset, .unset, .unset, .unset, .unset, .unset, .unset, .unset] []))
  refine Good.back (fun _ k => XS.iconst X0.here hx rfl (hb hby at_0) k) ?_
  show Good p e below _ (s₁.setTop (mkF m 1 #[.val (.int p0), .val (.int p1), .unset, .unset, .unset, .unset, .unset, .unset, .unset, .unset, .unset, .unset, .unset] [(.int (1 : Int32))]))
  obtain ⟨T1, h1, k1, X1, e1, E1, A1, st1⟩ := newP X0 hx hZ (hw _ (List.mem_of_getElem? (i := 0) rfl)) e0 (g := (mkF m 1 #[.val (.int p0), .val (.int p1), .unset, .unset, .unset, .unset, .unset, .unset, .unset, .unset, .unset, .unset, .unset] [(.int (1 : Int32))])) rfl (hb hby at_1) rfl (by decide) (cap := 1) (by decide) (by decide) (by decide) (by decide)
  obtain ⟨b1, g1⟩ : ∃ z, z = h0.size := ⟨_, rfl⟩
  rw [← g1] at A1 st1
  refine Good.back st1 ?_
  have g_b1 : n0 ≤ b1 := Nat.le_trans Z0 (Nat.le_of_eq g1.symm)
  have Z2 : n0 ≤ h1.size := Nat.le_trans Z0 E1.1
  have f_3 : Arv Z h1 b1 k1 .char (1 : Int32) [(.int (0 : Int32))] (.int (0 : Int32)) := (Arv.new A1 (by decide)).pad (pad_rep [] (.int (0 : Int32)) 1)
  show Good p e below _ (T1.setTop (mkF m 3 #[.val (.int p0), .val (.int p1), .unset, .unset, .unset, .unset, .unset, .unset, .unset, .unset, .unset, .unset, .unset] [(.ref b1)]))
  refine Good.back (fun _ k => XS.astoreN X1.here hx rfl (hb hby at_3) rfl rfl (l' := #[.val (.int p0), .val (.int p1), .val (.ref b1), .unset, .unset, .unset, .unset, .unset, .unset, .unset, .unset, .unset, .unset]) rfl k) ?_
  show Good p e below _ (T1.setTop (mkF m 4 #[.val (.int p0), .val (.int p1), .val (.ref b1), .unset, .unset, .unset, .unset, .unset, .unset, .unset, .unset, .unset, .unset] []))
  refine Good.back (fun _ k => XS.aloadN X1.here hx rfl (hb hby at_4) rfl rfl k) ?_
  show Good p e below _ (T1.setTop (mkF m 5 #[.val (.int p0), .val (.int p1), .val (.ref b1), .unset, .unset, .unset, .unset, .unset, .unset, .unset, .unset, .unset, .unset] [(.ref b1)]))
  refine Good.back (fun _ k => XS.iconst X1.here hx rfl (hb hby at_5) k) ?_
  show Good p e below _ (T1.setTop (mkF m 6 #[.val (.int p0), .val (.int p1), .val (.ref b1), .unset, .unset, .unset, .unset, .unset, .unset, .unset, .unset, .unset, .unset] [(.int (0 : Int32)), (.ref b1)]))
  refine Good.back (fun _ k => XS.iloadN X1.here hx rfl (hb hby at_6) rfl k) ?_
  show Good p e below _ (T1.setTop (mkF m 7 #[.val (.int p0), .val (.int p1), .val (.ref b1), .unset, .unset, .unset, .unset, .unset, .unset, .unset, .unset, .unset, .unset] [(.int p1), (.int (0 : Int32)), (.ref b1)]))
  refine Good.back (fun _ k => XS.sipush X1.here hx rfl (hb hby at_7) k) ?_
  show Good p e below _ (T1.setTop (mkF m 10 #[.val (.int p0), .val (.int p1), .val (.ref b1), .unset, .unset, .unset, .unset, .unset, .unset, .unset, .unset, .unset, .unset] [(.int (255 : Int32)), (.int p1), (.int (0 : Int32)), (.ref b1)]))
  refine Good.back (fun _ k => XS.iand X1.here hx rfl (hb hby at_10) rfl k) ?_
  show Good p e below _ (T1.setTop (mkF m 11 #[.val (.int p0), .val (.int p1), .val (.ref b1), .unset, .unset, .unset, .unset, .unset, .unset, .unset, .unset, .unset, .unset] [(.int (p1 &&& (255 : Int32))), (.int (0 : Int32)), (.ref b1)]))
  refine Good.back (fun _ k => XS.i2c X1.here hx rfl (hb hby at_11) rfl k) ?_
  show Good p e below _ (T1.setTop (mkF m 12 #[.val (.int p0), .val (.int p1), .val (.ref b1), .unset, .unset, .unset, .unset, .unset, .unset, .unset, .unset, .unset, .unset] [(.int ((p1 &&& (255 : Int32)).toUInt32.toUInt16.toUInt32.toInt32)), (.int (0 : Int32)), (.ref b1)]))
  have fc4 := f_3
  obtain ⟨cl4, Ar4, qk4, S4, N4', H4, G4⟩ := fc4
  have hin4 : ¬ ((0 : Int32) < 0 ∨ cl4.slots.size ≤ ((0 : Int32)).toNatClampNeg) := inb_of S4 ⟨by decide, by decide⟩
  obtain ⟨T4, h4, X4, e4, W4, st4⟩ := stC X1 hx hZ e1 Ar4 (j := (0 : Int32)) hin4 (g := (mkF m 12 #[.val (.int p0), .val (.int p1), .val (.ref b1), .unset, .unset, .unset, .unset, .unset, .unset, .unset, .unset, .unset, .unset] [(.int ((p1 &&& (255 : Int32)).toUInt32.toUInt16.toUInt32.toInt32)), (.int (0 : Int32)), (.ref b1)])) rfl rfl (hb hby at_12)
  refine Good.back st4 ?_
  have f_5 : Arv Z h4 b1 k1 .char (1 : Int32) [(.int (nar .char ((p1 &&& (255 : Int32)).toUInt32.toUInt16.toUInt32.toInt32)))] (.int (0 : Int32)) := Arv.set Ar4 qk4 S4 N4' H4 G4 (fits_nar_char _) W4 0 rfl (Nat.le_of_ble_eq_true rfl)
  have N4 := Fr.snoc X4 N0 g_b1
  have Z6 : n0 ≤ h4.size := Nat.le_trans Z2 (Keep.of_wr W4).1
  show Good p e below _ (T4.setTop (mkF m 13 #[.val (.int p0), .val (.int p1), .val (.ref b1), .unset, .unset, .unset, .unset, .unset, .unset, .unset, .unset, .unset, .unset] []))
  obtain ⟨T7, h7, X7, e7, E7, A7, D7, -, st7⟩ := newO X4 hx hZ hown (hw _ (List.mem_of_getElem? (i := 1) rfl)) (hw _ (List.mem_of_getElem? (i := 2) rfl)) (hw _ (List.mem_of_getElem? (i := 3) rfl)) e4 (g := (mkF m 13 #[.val (.int p0), .val (.int p1), .val (.ref b1), .unset, .unset, .unset, .unset, .unset, .unset, .unset, .unset, .unset, .unset] [])) rfl (hb hby at_13) (by decide) (by decide)
  obtain ⟨b7, g7⟩ : ∃ z, z = h4.size := ⟨_, rfl⟩
  rw [← g7] at A7 D7 st7
  refine Good.back st7 ?_
  have g_b7 : n0 ≤ b7 := Nat.le_trans Z6 (Nat.le_of_eq g7.symm)
  have Z8 : n0 ≤ h7.size := Nat.le_trans Z6 E7.1
  have f_9 : Exa Z h7 b7 "java/lang/String" := A7
  have f_10 : Fld Z h7 b7 "java/lang/String" "coder" "B" (.int (0 : Int32)) := D7 (Or.inr (hw _ (List.mem_of_getElem? (i := 27) rfl))) (ty := .byte) (by decide)
  have f_11 : Fld Z h7 b7 "java/lang/String" "value" "[B" .null := D7 (Or.inr (hw _ (List.mem_of_getElem? (i := 29) rfl))) (ty := (.array .byte)) (by decide)
  show Good p e below _ (T7.setTop (mkF m 16 #[.val (.int p0), .val (.int p1), .val (.ref b1), .unset, .unset, .unset, .unset, .unset, .unset, .unset, .unset, .unset, .unset] [(.ref b7)]))
  refine Good.back (fun _ k => XS.dup X7.here hx rfl (hb hby at_16) rfl rfl k) ?_
  show Good p e below _ (T7.setTop (mkF m 17 #[.val (.int p0), .val (.int p1), .val (.ref b1), .unset, .unset, .unset, .unset, .unset, .unset, .unset, .unset, .unset, .unset] [(.ref b7), (.ref b7)]))
  refine Good.back (fun _ k => XS.aloadN X7.here hx rfl (hb hby at_17) rfl rfl k) ?_
  show Good p e below _ (T7.setTop (mkF m 18 #[.val (.int p0), .val (.int p1), .val (.ref b1), .unset, .unset, .unset, .unset, .unset, .unset, .unset, .unset, .unset, .unset] [(.ref b1), (.ref b7), (.ref b7)]))
  have f_13 : Sta Z h1 "java/lang/String" "COMPACT_STRINGS" "Z" (.int cs) := Sta.ext E1 S_cs
  have f_14 : Sta Z h4 "java/lang/String" "COMPACT_STRINGS" "Z" (.int cs) := Sta.wr W4 f_13
  have f_15 : Sta Z h7 "java/lang/String" "COMPACT_STRINGS" "Z" (.int cs) := Sta.ext E7 f_14
  have f_16 : Arv Z h7 b1 k1 .char (1 : Int32) [(.int (nar .char ((p1 &&& (255 : Int32)).toUInt32.toUInt16.toUInt32.toInt32)))] (.int (0 : Int32)) := Arv.ext f_5 E7
  obtain ⟨_, _, ⟨T12, L12, k12, n12⟩, -, X12, ⟨Lc12, hQ12, l12, y12, z12⟩, st12⟩ := X7.specialBack hx (y := (⟨"java/lang/String", "<init>", "([C)V"⟩ : MethodName)) rfl hown (mvT hZ (hw _ (List.mem_of_getElem? (i := 4) rfl))) (mvT hZ (hw _ (List.mem_of_getElem? (i := 5) rfl))) (mvT hZ (hw _ (List.mem_of_getElem? (i := 6) rfl))) (by decide) (backOf (W := 1) (rm1n1 l Z a0 hw [] b7 b1 cs k1 (nar .char ((p1 &&& (255 : Int32)).toUInt32.toUInt16.toUInt32.toInt32)) h7 n0 Z8 f_15 (hcs) f_9 g_b7 f_11 f_10 f_16 (own_charN p1)) hZ (hw _ (List.mem_of_getElem? (i := 6) rfl)) (hw _ (List.mem_of_getElem? (i := 3) rfl)) (by decide) (by decide)) (g := (mkF m 18 #[.val (.int p0), .val (.int p1), .val (.ref b1), .unset, .unset, .unset, .unset, .unset, .unset, .unset, .unset, .unset, .unset] [(.ref b1), (.ref b7), (.ref b7)])) rfl (by rw [hml]; rfl) (Steps.refl _) (a := b7) (argsL := [(.ref b1)]) (rest := [(.ref b7)]) (lenOf own_pd121 rfl) rfl (by show 2 * 0 + _ ≤ _; exact Nat.le_of_eq rfl) (hb hby at_18) (fun _ _ => ⟨rfl, e7, (by decide : 2 + 1 ≤ _), (by decide : 5 + 1 ≤ _)⟩)
  dsimp only [Pt.U, Pt.locs, Pt.cells, Pt.slots] at X12 l12 y12 z12 st12 hQ12
  subst l12 y12 z12
  obtain ⟨ar_12, kb_12, rfl, N12q, Kq12, o12_0, o12_1, o12_2, o12_3, o12_4⟩ := hQ12
  have N12 := Fr.app N4 N12q
  have Z17 : n0 ≤ T12.heap.size := Nat.le_trans Z8 Kq12.1
  have g_ar_12 : n0 ≤ ar_12 := Nat.le_trans Z8 o12_0
  refine Good.back (fun _ k => st12.trans k) ?_
  show Good p e below _ (T12.setTop (mkF m 21 #[.val (.int p0), .val (.int p1), .val (.ref b1), .unset, .unset, .unset, .unset, .unset, .unset, .unset, .unset, .unset, .unset] [(.ref b7)]))
  refine Good.back (fun _ k => XS.astoreN X12.here hx rfl (hb hby at_21) rfl rfl (l' := #[.val (.int p0), .val (.int p1), .val (.ref b1), .val (.ref b7), .unset, .unset, .unset, .unset, .unset, .unset, .unset, .unset, .unset]) rfl k) ?_
  show Good p e below _ (T12.setTop (mkF m 22 #[.val (.int p0), .val (.int p1), .val (.ref b1), .val (.ref b7), .unset, .unset, .unset, .unset, .unset, .unset, .unset, .unset, .unset] []))
  refine Good.back (fun _ k => XS.iconst X12.here hx rfl (hb hby at_22) k) ?_
  show Good p e below _ (T12.setTop (mkF m 23 #[.val (.int p0), .val (.int p1), .val (.ref b1), .val (.ref b7), .unset, .unset, .unset, .unset, .unset, .unset, .unset, .unset, .unset] [(.int (0 : Int32))]))
  obtain ⟨T18, h18, k18, X18, e18, E18, A18, st18⟩ := newP X12 hx hZ (hw _ (List.mem_of_getElem? (i := 19) rfl)) rfl (g := (mkF m 23 #[.val (.int p0), .val (.int p1), .val (.ref b1), .val (.ref b7), .unset, .unset, .unset, .unset, .unset, .unset, .unset, .unset, .unset] [(.int (0 : Int32))])) rfl (hb hby at_23) rfl (by decide) (cap := 0) (by decide) (by decide) (by decide) (by decide)
  obtain ⟨b18, g18⟩ : ∃ z, z = T12.heap.size := ⟨_, rfl⟩
  rw [← g18] at A18 st18
  refine Good.back st18 ?_
  have g_b18 : n0 ≤ b18 := Nat.le_trans Z17 (Nat.le_of_eq g18.symm)
  have Z19 : n0 ≤ h18.size := Nat.le_trans Z17 E18.1
  have f_20 : Arv Z h18 b18 k18 .byte (0 : Int32) [] (.int (0 : Int32)) := (Arv.new A18 (by decide)).pad (pad_rep [] (.int (0 : Int32)) 0)
  show Good p e below _ (T18.setTop (mkF m 25 #[.val (.int p0), .val (.int p1), .val (.ref b1), .val (.ref b7), .unset, .unset, .unset, .unset, .unset, .unset, .unset, .unset, .unset] [(.ref b18)]))
  refine Good.back (fun _ k => XS.astore X18.here hx rfl (hb hby at_25) rfl rfl (l' := #[.val (.int p0), .val (.int p1), .val (.ref b1), .val (.ref b7), .val (.ref b18), .unset, .unset, .unset, .unset, .unset, .unset, .unset, .unset]) rfl k) ?_
  show Good p e below _ (T18.setTop (mkF m 27 #[.val (.int p0), .val (.int p1), .val (.ref b1), .val (.ref b7), .val (.ref b18), .unset, .unset, .unset, .unset, .unset, .unset, .unset, .unset] []))
  obtain ⟨T21, h21, X21, e21, E21, A21, D21, -, st21⟩ := newO X18 hx hZ hown (hw _ (List.mem_of_getElem? (i := 30) rfl)) (hw _ (List.mem_of_getElem? (i := 31) rfl)) (hw _ (List.mem_of_getElem? (i := 32) rfl)) e18 (g := (mkF m 27 #[.val (.int p0), .val (.int p1), .val (.ref b1), .val (.ref b7), .val (.ref b18), .unset, .unset, .unset, .unset, .unset, .unset, .unset, .unset] [])) rfl (hb hby at_27) (by decide) (by decide)
  obtain ⟨b21, g21⟩ : ∃ z, z = h18.size := ⟨_, rfl⟩
  rw [← g21] at A21 D21 st21
  refine Good.back st21 ?_
  have g_b21 : n0 ≤ b21 := Nat.le_trans Z19 (Nat.le_of_eq g21.symm)
  have Z22 : n0 ≤ h21.size := Nat.le_trans Z19 E21.1
  have f_23 : Exa Z h21 b21 "java/util/ArrayList" := A21
  have f_24 : Fld Z h21 b21 "java/util/AbstractList" "modCount" "I" (.int (0 : Int32)) := D21 (Or.inl (hw _ (List.mem_of_getElem? (i := 50) rfl))) (ty := .int) (by decide)
  have f_25 : Fld Z h21 b21 "java/util/ArrayList" "elementData" "[Ljava/lang/Object;" .null := D21 (Or.inl (hw _ (List.mem_of_getElem? (i := 53) rfl))) (ty := (.array (.object "java/lang/Object"))) (by decide)
  show Good p e below _ (T21.setTop (mkF m 30 #[.val (.int p0), .val (.int p1), .val (.ref b1), .val (.ref b7), .val (.ref b18), .unset, .unset, .unset, .unset, .unset, .unset, .unset, .unset] [(.ref b21)]))
  refine Good.back (fun _ k => XS.dup X21.here hx rfl (hb hby at_30) rfl rfl k) ?_
  show Good p e below _ (T21.setTop (mkF m 31 #[.val (.int p0), .val (.int p1), .val (.ref b1), .val (.ref b7), .val (.ref b18), .unset, .unset, .unset, .unset, .unset, .unset, .unset, .unset] [(.ref b21), (.ref b21)]))
  have f_27 : Sta Z h1 "java/util/ArrayList" "DEFAULTCAPACITY_EMPTY_ELEMENTDATA" "[Ljava/lang/Object;" (.ref de) := Sta.ext E1 S_de
  have f_28 : Sta Z h4 "java/util/ArrayList" "DEFAULTCAPACITY_EMPTY_ELEMENTDATA" "[Ljava/lang/Object;" (.ref de) := Sta.wr W4 f_27
  have f_29 : Sta Z h7 "java/util/ArrayList" "DEFAULTCAPACITY_EMPTY_ELEMENTDATA" "[Ljava/lang/Object;" (.ref de) := Sta.ext E7 f_28
  have f_30 : Sta Z T12.heap "java/util/ArrayList" "DEFAULTCAPACITY_EMPTY_ELEMENTDATA" "[Ljava/lang/Object;" (.ref de) := own_staKeep f_29 Kq12 (allS (own_plainE f_9) all0)
  have f_31 : Sta Z h18 "java/util/ArrayList" "DEFAULTCAPACITY_EMPTY_ELEMENTDATA" "[Ljava/lang/Object;" (.ref de) := Sta.ext E18 f_30
  have f_32 : Sta Z h21 "java/util/ArrayList" "DEFAULTCAPACITY_EMPTY_ELEMENTDATA" "[Ljava/lang/Object;" (.ref de) := Sta.ext E21 f_31
  obtain ⟨_, _, ⟨T26, L26, k26, n26⟩, -, X26, ⟨Lc26, hQ26, l26, y26, z26⟩, st26⟩ := X21.specialBack hx (y := (⟨"java/util/ArrayList", "<init>", "()V"⟩ : MethodName)) rfl hown (mvT hZ (hw _ (List.mem_of_getElem? (i := 33) rfl))) (mvT hZ (hw _ (List.mem_of_getElem? (i := 34) rfl))) (mvT hZ (hw _ (List.mem_of_getElem? (i := 35) rfl))) (by decide) (backOf (W := 1) (rm7 l Z a0 hw [] b21 de h21 n0 Z22 f_23 g_b21 f_24 f_25 f_32) hZ (hw _ (List.mem_of_getElem? (i := 35) rfl)) (hw _ (List.mem_of_getElem? (i := 32) rfl)) (by decide) (by decide)) (g := (mkF m 31 #[.val (.int p0), .val (.int p1), .val (.ref b1), .val (.ref b7), .val (.ref b18), .unset, .unset, .unset, .unset, .unset, .unset, .unset, .unset] [(.ref b21), (.ref b21)])) rfl (by rw [hml]; rfl) (Steps.refl _) (a := b21) (argsL := []) (rest := [(.ref b21)]) (lenOf own_pd84 rfl) rfl (by show 2 * 0 + _ ≤ _; exact Nat.le_of_eq rfl) (hb hby at_31) (fun _ _ => ⟨rfl, e21, (by decide : 5 + 0 ≤ _), (by decide : 9 + 0 ≤ _)⟩)
  dsimp only [Pt.U, Pt.locs, Pt.cells, Pt.slots] at X26 l26 y26 z26 st26 hQ26
  subst l26 y26 z26
  obtain ⟨rfl, N26q, Kq26⟩ := hQ26
  have N26 := Fr.app N12 N26q
  have Z33 : n0 ≤ T26.heap.size := Nat.le_trans Z22 Kq26.1
  refine Good.back (fun _ k => st26.trans k) ?_
  show Good p e below _ (T26.setTop (mkF m 34 #[.val (.int p0), .val (.int p1), .val (.ref b1), .val (.ref b7), .val (.ref b18), .unset, .unset, .unset, .unset, .unset, .unset, .unset, .unset] [(.ref b21)]))
  refine Good.back (fun _ k => XS.astore X26.here hx rfl (hb hby at_34) rfl rfl (l' := #[.val (.int p0), .val (.int p1), .val (.ref b1), .val (.ref b7), .val (.ref b18), .val (.ref b21), .unset, .unset, .unset, .unset, .unset, .unset, .unset]) rfl k) ?_
  show Good p e below _ (T26.setTop (mkF m 36 #[.val (.int p0), .val (.int p1), .val (.ref b1), .val (.ref b7), .val (.ref b18), .val (.ref b21), .unset, .unset, .unset, .unset, .unset, .unset, .unset] []))
  refine Good.back (fun _ k => XS.iloadN X26.here hx rfl (hb hby at_36) rfl k) ?_
  show Good p e below _ (T26.setTop (mkF m 37 #[.val (.int p0), .val (.int p1), .val (.ref b1), .val (.ref b7), .val (.ref b18), .val (.ref b21), .unset, .unset, .unset, .unset, .unset, .unset, .unset] [(.int p1)]))
  refine Good.back (fun _ k => XS.bipush X26.here hx rfl (hb hby at_37) k) ?_
  show Good p e below _ (T26.setTop (mkF m 39 #[.val (.int p0), .val (.int p1), .val (.ref b1), .val (.ref b7), .val (.ref b18), .val (.ref b21), .unset, .unset, .unset, .unset, .unset, .unset, .unset] [(.int (-2 : Int32)), (.int p1)]))
  refine Good.back (fun _ k => XS.iand X26.here hx rfl (hb hby at_39) rfl k) ?_
  show Good p e below _ (T26.setTop (mkF m 40 #[.val (.int p0), .val (.int p1), .val (.ref b1), .val (.ref b7), .val (.ref b18), .val (.ref b21), .unset, .unset, .unset, .unset, .unset, .unset, .unset] [(.int (p1 &&& (-2 : Int32)))]))
  refine Good.back (fun _ k => XS.istore X26.here hx rfl (hb hby at_40) rfl (l' := #[.val (.int p0), .val (.int p1), .val (.ref b1), .val (.ref b7), .val (.ref b18), .val (.ref b21), .val (.int (p1 &&& (-2 : Int32))), .unset, .unset, .unset, .unset, .unset, .unset]) rfl k) ?_
  show Good p e below _ (T26.setTop (mkF m 42 #[.val (.int p0), .val (.int p1), .val (.ref b1), .val (.ref b7), .val (.ref b18), .val (.ref b21), .val (.int (p1 &&& (-2 : Int32))), .unset, .unset, .unset, .unset, .unset, .unset] []))
  obtain ⟨T34, h34, X34, e34, E34, A34, D34, -, st34⟩ := newO X26 hx hZ hown (hw _ (List.mem_of_getElem? (i := 54) rfl)) (hw _ (List.mem_of_getElem? (i := 55) rfl)) (hw _ (List.mem_of_getElem? (i := 56) rfl)) rfl (g := (mkF m 42 #[.val (.int p0), .val (.int p1), .val (.ref b1), .val (.ref b7), .val (.ref b18), .val (.ref b21), .val (.int (p1 &&& (-2 : Int32))), .unset, .unset, .unset, .unset, .unset, .unset] [])) rfl (hb hby at_42) (by decide) (by decide)
  obtain ⟨b34, g34⟩ : ∃ z, z = T26.heap.size := ⟨_, rfl⟩
  rw [← g34] at A34 D34 st34
  refine Good.back st34 ?_
  have g_b34 : n0 ≤ b34 := Nat.le_trans Z33 (Nat.le_of_eq g34.symm)
  have Z35 : n0 ≤ h34.size := Nat.le_trans Z33 E34.1
  have f_36 : Exa Z h34 b34 "com/example/vartija/vartija/protocol/CreateRequest" := A34
  have f_37 : Fld Z h34 b34 "com/example/vartija/vartija/protocol/CreateRequest" "path" "Ljava/lang/String;" .null := D34 (Or.inr (hw _ (List.mem_of_getElem? (i := 67) rfl))) (ty := (.object "java/lang/String")) (by decide)
  have f_38 : Fld Z h34 b34 "com/example/vartija/vartija/protocol/CreateRequest" "data" "[B" .null := D34 (Or.inr (hw _ (List.mem_of_getElem? (i := 69) rfl))) (ty := (.array .byte)) (by decide)
  have f_39 : Fld Z h34 b34 "com/example/vartija/vartija/protocol/CreateRequest" "acl" "Ljava/util/List;" .null := D34 (Or.inr (hw _ (List.mem_of_getElem? (i := 71) rfl))) (ty := (.object "java/util/List")) (by decide)
  have f_40 : Fld Z h34 b34 "com/example/vartija/vartija/protocol/CreateRequest" "flags" "I" (.int (0 : Int32)) := D34 (Or.inr (hw _ (List.mem_of_getElem? (i := 73) rfl))) (ty := .int) (by decide)
  show Good p e below _ (T34.setTop (mkF m 45 #[.val (.int p0), .val (.int p1), .val (.ref b1), .val (.ref b7), .val (.ref b18), .val (.ref b21), .val (.int (p1 &&& (-2 : Int32))), .unset, .unset, .unset, .unset, .unset, .unset] [(.ref b34)]))
  refine Good.back (fun _ k => XS.dup X34.here hx rfl (hb hby at_45) rfl rfl k) ?_
  show Good p e below _ (T34.setTop (mkF m 46 #[.val (.int p0), .val (.int p1), .val (.ref b1), .val (.ref b7), .val (.ref b18), .val (.ref b21), .val (.int (p1 &&& (-2 : Int32))), .unset, .unset, .unset, .unset, .unset, .unset] [(.ref b34), (.ref b34)]))
  refine Good.back (fun _ k => XS.aloadN X34.here hx rfl (hb hby at_46) rfl rfl k) ?_
  show Good p e below _ (T34.setTop (mkF m 47 #[.val (.int p0), .val (.int p1), .val (.ref b1), .val (.ref b7), .val (.ref b18), .val (.ref b21), .val (.int (p1 &&& (-2 : Int32))), .unset, .unset, .unset, .unset, .unset, .unset] [(.ref b7), (.ref b34), (.ref b34)]))
  refine Good.back (fun _ k => XS.aload X34.here hx rfl (hb hby at_47) rfl rfl k) ?_
  show Good p e below _ (T34.setTop (mkF m 49 #[.val (.int p0), .val (.int p1), .val (.ref b1), .val (.ref b7), .val (.ref b18), .val (.ref b21), .val (.int (p1 &&& (-2 : Int32))), .unset, .unset, .unset, .unset, .unset, .unset] [(.ref b18), (.ref b7), (.ref b34), (.ref b34)]))
  refine Good.back (fun _ k => XS.aload X34.here hx rfl (hb hby at_49) rfl rfl k) ?_
  show Good p e below _ (T34.setTop (mkF m 51 #[.val (.int p0), .val (.int p1), .val (.ref b1), .val (.ref b7), .val (.ref b18), .val (.ref b21), .val (.int (p1 &&& (-2 : Int32))), .unset, .unset, .unset, .unset, .unset, .unset] [(.ref b21), (.ref b18), (.ref b7), (.ref b34), (.ref b34)]))
  refine Good.back (fun _ k => XS.iloadN X34.here hx rfl (hb hby at_51) rfl k) ?_
  show Good p e below _ (T34.setTop (mkF m 52 #[.val (.int p0), .val (.int p1), .val (.ref b1), .val (.ref b7), .val (.ref b18), .val (.ref b21), .val (.int (p1 &&& (-2 : Int32))), .unset, .unset, .unset, .unset, .unset, .unset] [(.int p0), (.ref b21), (.ref b18), (.ref b7), (.ref b34), (.ref b34)]))
  obtain ⟨_, _, ⟨T41, L41, k41, n41⟩, -, X41, ⟨Lc41, hQ41, l41, y41, z41⟩, st41⟩ := X34.specialBack hx (y := (⟨"com/example/vartija/vartija/protocol/CreateRequest", "<init>", "(Ljava/lang/String;[BLjava/util/List;I)V"⟩ : MethodName)) rfl hown (mvT hZ (hw _ (List.mem_of_getElem? (i := 57) rfl))) (mvT hZ (hw _ (List.mem_of_getElem? (i := 58) rfl))) (mvT hZ (hw _ (List.mem_of_getElem? (i := 59) rfl))) (by decide) (backOf (W := 1) (rm10 l Z a0 hw [] b34 b7 b18 b21 p0  h34 n0 Z35 f_36 g_b34 f_37 f_38 f_39 f_40) hZ (hw _ (List.mem_of_getElem? (i := 59) rfl)) (hw _ (List.mem_of_getElem? (i := 56) rfl)) (by decide) (by decide)) (g := (mkF m 52 #[.val (.int p0), .val (.int p1), .val (.ref b1), .val (.ref b7), .val (.ref b18), .val (.ref b21), .val (.int (p1 &&& (-2 : Int32))), .unset, .unset, .unset, .unset, .unset, .unset] [(.int p0), (.ref b21), (.ref b18), (.ref b7), (.ref b34), (.ref b34)])) rfl (by rw [hml]; rfl) (Steps.refl _) (a := b34) (argsL := [(.ref b7), (.ref b18), (.ref b21), (.int p0)]) (rest := [(.ref b34)]) (lenOf own_pd122 rfl) rfl (by show 2 * 0 + _ ≤ _; exact Nat.le_of_eq rfl) (hb hby at_52) (fun _ _ => ⟨rfl, e34, (by decide : 6 + 0 ≤ _), (by decide : 13 + 0 ≤ _)⟩)
  dsimp only [Pt.U, Pt.locs, Pt.cells, Pt.slots] at X41 l41 y41 z41 st41 hQ41
  subst l41 y41 z41
  obtain ⟨rfl, N41q, Kq41, o41_0⟩ := hQ41
  have N41 := Fr.app N26 N41q
  have Z42 : n0 ≤ T41.heap.size := Nat.le_trans Z35 Kq41.1
  refine Good.back (fun _ k => st41.trans k) ?_
  show Good p e below _ (T41.setTop (mkF m 55 #[.val (.int p0), .val (.int p1), .val (.ref b1), .val (.ref b7), .val (.ref b18), .val (.ref b21), .val (.int (p1 &&& (-2 : Int32))), .unset, .unset, .unset, .unset, .unset, .unset] [(.ref b34)]))
  refine Good.back (fun _ k => XS.astore X41.here hx rfl (hb hby at_55) rfl rfl (l' := #[.val (.int p0), .val (.int p1), .val (.ref b1), .val (.ref b7), .val (.ref b18), .val (.ref b21), .val (.int (p1 &&& (-2 : Int32))), .val (.ref b34), .unset, .unset, .unset, .unset, .unset]) rfl k) ?_
  show Good p e below _ (T41.setTop (mkF m 57 #[.val (.int p0), .val (.int p1), .val (.ref b1), .val (.ref b7), .val (.ref b18), .val (.ref b21), .val (.int (p1 &&& (-2 : Int32))), .val (.ref b34), .unset, .unset, .unset, .unset, .unset] []))
  obtain ⟨T43, h43, X43, e43, E43, A43, D43, -, st43⟩ := newO X41 hx hZ hown (hw _ (List.mem_of_getElem? (i := 54) rfl)) (hw _ (List.mem_of_getElem? (i := 55) rfl)) (hw _ (List.mem_of_getElem? (i := 56) rfl)) rfl (g := (mkF m 57 #[.val (.int p0), .val (.int p1), .val (.ref b1), .val (.ref b7), .val (.ref b18), .val (.ref b21), .val (.int (p1 &&& (-2 : Int32))), .val (.ref b34), .unset, .unset, .unset, .unset, .unset] [])) rfl (hb hby at_57) (by decide) (by decide)
  obtain ⟨b43, g43⟩ : ∃ z, z = T41.heap.size := ⟨_, rfl⟩
  rw [← g43] at A43 D43 st43
  refine Good.back st43 ?_
  have g_b43 : n0 ≤ b43 := Nat.le_trans Z42 (Nat.le_of_eq g43.symm)
  have Z44 : n0 ≤ h43.size := Nat.le_trans Z42 E43.1
  have f_45 : Exa Z h43 b43 "com/example/vartija/vartija/protocol/CreateRequest" := A43
  have f_46 : Fld Z h43 b43 "com/example/vartija/vartija/protocol/CreateRequest" "path" "Ljava/lang/String;" .null := D43 (Or.inr (hw _ (List.mem_of_getElem? (i := 67) rfl))) (ty := (.object "java/lang/String")) (by decide)
  have f_47 : Fld Z h43 b43 "com/example/vartija/vartija/protocol/CreateRequest" "data" "[B" .null := D43 (Or.inr (hw _ (List.mem_of_getElem? (i := 69) rfl))) (ty := (.array .byte)) (by decide)
  have f_48 : Fld Z h43 b43 "com/example/vartija/vartija/protocol/CreateRequest" "acl" "Ljava/util/List;" .null := D43 (Or.inr (hw _ (List.mem_of_getElem? (i := 71) rfl))) (ty := (.object "java/util/List")) (by decide)
  have f_49 : Fld Z h43 b43 "com/example/vartija/vartija/protocol/CreateRequest" "flags" "I" (.int (0 : Int32)) := D43 (Or.inr (hw _ (List.mem_of_getElem? (i := 73) rfl))) (ty := .int) (by decide)
  show Good p e below _ (T43.setTop (mkF m 60 #[.val (.int p0), .val (.int p1), .val (.ref b1), .val (.ref b7), .val (.ref b18), .val (.ref b21), .val (.int (p1 &&& (-2 : Int32))), .val (.ref b34), .unset, .unset, .unset, .unset, .unset] [(.ref b43)]))
  refine Good.back (fun _ k => XS.dup X43.here hx rfl (hb hby at_60) rfl rfl k) ?_
  show Good p e below _ (T43.setTop (mkF m 61 #[.val (.int p0), .val (.int p1), .val (.ref b1), .val (.ref b7), .val (.ref b18), .val (.ref b21), .val (.int (p1 &&& (-2 : Int32))), .val (.ref b34), .unset, .unset, .unset, .unset, .unset] [(.ref b43), (.ref b43)]))
  refine Good.back (fun _ k => XS.aloadN X43.here hx rfl (hb hby at_61) rfl rfl k) ?_
  show Good p e below _ (T43.setTop (mkF m 62 #[.val (.int p0), .val (.int p1), .val (.ref b1), .val (.ref b7), .val (.ref b18), .val (.ref b21), .val (.int (p1 &&& (-2 : Int32))), .val (.ref b34), .unset, .unset, .unset, .unset, .unset] [(.ref b7), (.ref b43), (.ref b43)]))
  refine Good.back (fun _ k => XS.aload X43.here hx rfl (hb hby at_62) rfl rfl k) ?_
  show Good p e below _ (T43.setTop (mkF m 64 #[.val (.int p0), .val (.int p1), .val (.ref b1), .val (.ref b7), .val (.ref b18), .val (.ref b21), .val (.int (p1 &&& (-2 : Int32))), .val (.ref b34), .unset, .unset, .unset, .unset, .unset] [(.ref b18), (.ref b7), (.ref b43), (.ref b43)]))
  refine Good.back (fun _ k => XS.aload X43.here hx rfl (hb hby at_64) rfl rfl k) ?_
  show Good p e below _ (T43.setTop (mkF m 66 #[.val (.int p0), .val (.int p1), .val (.ref b1), .val (.ref b7), .val (.ref b18), .val (.ref b21), .val (.int (p1 &&& (-2 : Int32))), .val (.ref b34), .unset, .unset, .unset, .unset, .unset] [(.ref b21), (.ref b18), (.ref b7), (.ref b43), (.ref b43)]))
  refine Good.back (fun _ k => XS.iloadN X43.here hx rfl (hb hby at_66) rfl k) ?_
  show Good p e below _ (T43.setTop (mkF m 67 #[.val (.int p0), .val (.int p1), .val (.ref b1), .val (.ref b7), .val (.ref b18), .val (.ref b21), .val (.int (p1 &&& (-2 : Int32))), .val (.ref b34), .unset, .unset, .unset, .unset, .unset] [(.int p0), (.ref b21), (.ref b18), (.ref b7), (.ref b43), (.ref b43)]))
  refine Good.back (fun _ k => XS.iconst X43.here hx rfl (hb hby at_67) k) ?_
  show Good p e below _ (T43.setTop (mkF m 68 #[.val (.int p0), .val (.int p1), .val (.ref b1), .val (.ref b7), .val (.ref b18), .val (.ref b21), .val (.int (p1 &&& (-2 : Int32))), .val (.ref b34), .unset, .unset, .unset, .unset, .unset] [(.int (1 : Int32)), (.int p0), (.ref b21), (.ref b18), (.ref b7), (.ref b43), (.ref b43)]))
  refine Good.back (fun _ k => XS.ior X43.here hx rfl (hb hby at_68) rfl k) ?_
  show Good p e below _ (T43.setTop (mkF m 69 #[.val (.int p0), .val (.int p1), .val (.ref b1), .val (.ref b7), .val (.ref b18), .val (.ref b21), .val (.int (p1 &&& (-2 : Int32))), .val (.ref b34), .unset, .unset, .unset, .unset, .unset] [(.int (p0 ||| (1 : Int32))), (.ref b21), (.ref b18), (.ref b7), (.ref b43), (.ref b43)]))
  obtain ⟨_, _, ⟨T50, L50, k50, n50⟩, -, X50, ⟨Lc50, hQ50, l50, y50, z50⟩, st50⟩ := X43.specialBack hx (y := (⟨"com/example/vartija/vartija/protocol/CreateRequest", "<init>", "(Ljava/lang/String;[BLjava/util/List;I)V"⟩ : MethodName)) rfl hown (mvT hZ (hw _ (List.mem_of_getElem? (i := 57) rfl))) (mvT hZ (hw _ (List.mem_of_getElem? (i := 58) rfl))) (mvT hZ (hw _ (List.mem_of_getElem? (i := 59) rfl))) (by decide) (backOf (W := 1) (rm10 l Z a0 hw [] b43 b7 b18 b21 (p0 ||| (1 : Int32))  h43 n0 Z44 f_45 g_b43 f_46 f_47 f_48 f_49) hZ (hw _ (List.mem_of_getElem? (i := 59) rfl)) (hw _ (List.mem_of_getElem? (i := 56) rfl)) (by decide) (by decide)) (g := (mkF m 69 #[.val (.int p0), .val (.int p1), .val (.ref b1), .val (.ref b7), .val (.ref b18), .val (.ref b21), .val (.int (p1 &&& (-2 : Int32))), .val (.ref b34), .unset, .unset, .unset, .unset, .unset] [(.int (p0 ||| (1 : Int32))), (.ref b21), (.ref b18), (.ref b7), (.ref b43), (.ref b43)])) rfl (by rw [hml]; rfl) (Steps.refl _) (a := b43) (argsL := [(.ref b7), (.ref b18), (.ref b21), (.int (p0 ||| (1 : Int32)))]) (rest := [(.ref b43)]) (lenOf own_pd122 rfl) rfl (by show 2 * 0 + _ ≤ _; exact Nat.le_of_eq rfl) (hb hby at_69) (fun _ _ => ⟨rfl, e43, (by decide : 7 + 0 ≤ _), (by decide : 17 + 0 ≤ _)⟩)
  dsimp only [Pt.U, Pt.locs, Pt.cells, Pt.slots] at X50 l50 y50 z50 st50 hQ50
  subst l50 y50 z50
  obtain ⟨rfl, N50q, Kq50, o50_0⟩ := hQ50
  have N50 := Fr.app N41 N50q
  have Z51 : n0 ≤ T50.heap.size := Nat.le_trans Z44 Kq50.1
  refine Good.back (fun _ k => st50.trans k) ?_
  show Good p e below _ (T50.setTop (mkF m 72 #[.val (.int p0), .val (.int p1), .val (.ref b1), .val (.ref b7), .val (.ref b18), .val (.ref b21), .val (.int (p1 &&& (-2 : Int32))), .val (.ref b34), .unset, .unset, .unset, .unset, .unset] [(.ref b43)]))
  refine Good.back (fun _ k => XS.astore X50.here hx rfl (hb hby at_72) rfl rfl (l' := #[.val (.int p0), .val (.int p1), .val (.ref b1), .val (.ref b7), .val (.ref b18), .val (.ref b21), .val (.int (p1 &&& (-2 : Int32))), .val (.ref b34), .val (.ref b43), .unset, .unset, .unset, .unset]) rfl k) ?_
  show Good p e below _ (T50.setTop (mkF m 74 #[.val (.int p0), .val (.int p1), .val (.ref b1), .val (.ref b7), .val (.ref b18), .val (.ref b21), .val (.int (p1 &&& (-2 : Int32))), .val (.ref b34), .val (.ref b43), .unset, .unset, .unset, .unset] []))
  obtain ⟨T52, h52, X52, e52, E52, A52, D52, -, st52⟩ := newO X50 hx hZ hown (hw _ (List.mem_of_getElem? (i := 54) rfl)) (hw _ (List.mem_of_getElem? (i := 55) rfl)) (hw _ (List.mem_of_getElem? (i := 56) rfl)) rfl (g := (mkF m 74 #[.val (.int p0), .val (.int p1), .val (.ref b1), .val (.ref b7), .val (.ref b18), .val (.ref b21), .val (.int (p1 &&& (-2 : Int32))), .val (.ref b34), .val (.ref b43), .unset, .unset, .unset, .unset] [])) rfl (hb hby at_74) (by decide) (by decide)
  obtain ⟨b52, g52⟩ : ∃ z, z = T50.heap.size := ⟨_, rfl⟩
  rw [← g52] at A52 D52 st52
  refine Good.back st52 ?_
  have g_b52 : n0 ≤ b52 := Nat.le_trans Z51 (Nat.le_of_eq g52.symm)
  have Z53 : n0 ≤ h52.size := Nat.le_trans Z51 E52.1
  have f_54 : Exa Z h52 b52 "com/example/vartija/vartija/protocol/CreateRequest" := A52
  have f_55 : Fld Z h52 b52 "com/example/vartija/vartija/protocol/CreateRequest" "path" "Ljava/lang/String;" .null := D52 (Or.inr (hw _ (List.mem_of_getElem? (i := 67) rfl))) (ty := (.object "java/lang/String")) (by decide)
  have f_56 : Fld Z h52 b52 "com/example/vartija/vartija/protocol/CreateRequest" "data" "[B" .null := D52 (Or.inr (hw _ (List.mem_of_getElem? (i := 69) rfl))) (ty := (.array .byte)) (by decide)
  have f_57 : Fld Z h52 b52 "com/example/vartija/vartija/protocol/CreateRequest" "acl" "Ljava/util/List;" .null := D52 (Or.inr (hw _ (List.mem_of_getElem? (i := 71) rfl))) (ty := (.object "java/util/List")) (by decide)
  have f_58 : Fld Z h52 b52 "com/example/vartija/vartija/protocol/CreateRequest" "flags" "I" (.int (0 : Int32)) := D52 (Or.inr (hw _ (List.mem_of_getElem? (i := 73) rfl))) (ty := .int) (by decide)
  show Good p e below _ (T52.setTop (mkF m 77 #[.val (.int p0), .val (.int p1), .val (.ref b1), .val (.ref b7), .val (.ref b18), .val (.ref b21), .val (.int (p1 &&& (-2 : Int32))), .val (.ref b34), .val (.ref b43), .unset, .unset, .unset, .unset] [(.ref b52)]))
  refine Good.back (fun _ k => XS.dup X52.here hx rfl (hb hby at_77) rfl rfl k) ?_
  show Good p e below _ (T52.setTop (mkF m 78 #[.val (.int p0), .val (.int p1), .val (.ref b1), .val (.ref b7), .val (.ref b18), .val (.ref b21), .val (.int (p1 &&& (-2 : Int32))), .val (.ref b34), .val (.ref b43), .unset, .unset, .unset, .unset] [(.ref b52), (.ref b52)]))
  refine Good.back (fun _ k => XS.aloadN X52.here hx rfl (hb hby at_78) rfl rfl k) ?_
  show Good p e below _ (T52.setTop (mkF m 79 #[.val (.int p0), .val (.int p1), .val (.ref b1), .val (.ref b7), .val (.ref b18), .val (.ref b21), .val (.int (p1 &&& (-2 : Int32))), .val (.ref b34), .val (.ref b43), .unset, .unset, .unset, .unset] [(.ref b7), (.ref b52), (.ref b52)]))
  refine Good.back (fun _ k => XS.aload X52.here hx rfl (hb hby at_79) rfl rfl k) ?_
  show Good p e below _ (T52.setTop (mkF m 81 #[.val (.int p0), .val (.int p1), .val (.ref b1), .val (.ref b7), .val (.ref b18), .val (.ref b21), .val (.int (p1 &&& (-2 : Int32))), .val (.ref b34), .val (.ref b43), .unset, .unset, .unset, .unset] [(.ref b18), (.ref b7), (.ref b52), (.ref b52)]))
  refine Good.back (fun _ k => XS.aload X52.here hx rfl (hb hby at_81) rfl rfl k) ?_
  show Good p e below _ (T52.setTop (mkF m 83 #[.val (.int p0), .val (.int p1), .val (.ref b1), .val (.ref b7), .val (.ref b18), .val (.ref b21), .val (.int (p1 &&& (-2 : Int32))), .val (.ref b34), .val (.ref b43), .unset, .unset, .unset, .unset] [(.ref b21), (.ref b18), (.ref b7), (.ref b52), (.ref b52)]))
  refine Good.back (fun _ k => XS.iloadN X52.here hx rfl (hb hby at_83) rfl k) ?_
  show Good p e below _ (T52.setTop (mkF m 84 #[.val (.int p0), .val (.int p1), .val (.ref b1), .val (.ref b7), .val (.ref b18), .val (.ref b21), .val (.int (p1 &&& (-2 : Int32))), .val (.ref b34), .val (.ref b43), .unset, .unset, .unset, .unset] [(.int p0), (.ref b21), (.ref b18), (.ref b7), (.ref b52), (.ref b52)]))
  refine Good.back (fun _ k => XS.bipush X52.here hx rfl (hb hby at_84) k) ?_
  show Good p e below _ (T52.setTop (mkF m 86 #[.val (.int p0), .val (.int p1), .val (.ref b1), .val (.ref b7), .val (.ref b18), .val (.ref b21), .val (.int (p1 &&& (-2 : Int32))), .val (.ref b34), .val (.ref b43), .unset, .unset, .unset, .unset] [(.int (-2 : Int32)), (.int p0), (.ref b21), (.ref b18), (.ref b7), (.ref b52), (.ref b52)]))
  refine Good.back (fun _ k => XS.iand X52.here hx rfl (hb hby at_86) rfl k) ?_
  show Good p e below _ (T52.setTop (mkF m 87 #[.val (.int p0), .val (.int p1), .val (.ref b1), .val (.ref b7), .val (.ref b18), .val (.ref b21), .val (.int (p1 &&& (-2 : Int32))), .val (.ref b34), .val (.ref b43), .unset, .unset, .unset, .unset] [(.int (p0 &&& (-2 : Int32))), (.ref b21), (.ref b18), (.ref b7), (.ref b52), (.ref b52)]))
  obtain ⟨_, _, ⟨T59, L59, k59, n59⟩, -, X59, ⟨Lc59, hQ59, l59, y59, z59⟩, st59⟩ := X52.specialBack hx (y := (⟨"com/example/vartija/vartija/protocol/CreateRequest", "<init>", "(Ljava/lang/String;[BLjava/util/List;I)V"⟩ : MethodName)) rfl hown (mvT hZ (hw _ (List.mem_of_getElem? (i := 57) rfl))) (mvT hZ (hw _ (List.mem_of_getElem? (i := 58) rfl))) (mvT hZ (hw _ (List.mem_of_getElem? (i := 59) rfl))) (by decide) (backOf (W := 1) (rm10 l Z a0 hw [] b52 b7 b18 b21 (p0 &&& (-2 : Int32))  h52 n0 Z53 f_54 g_b52 f_55 f_56 f_57 f_58) hZ (hw _ (List.mem_of_getElem? (i := 59) rfl)) (hw _ (List.mem_of_getElem? (i := 56) rfl)) (by decide) (by decide)) (g := (mkF m 87 #[.val (.int p0), .val (.int p1), .val (.ref b1), .val (.ref b7), .val (.ref b18), .val (.ref b21), .val (.int (p1 &&& (-2 : Int32))), .val (.ref b34), .val (.ref b43), .unset, .unset, .unset, .unset] [(.int (p0 &&& (-2 : Int32))), (.ref b21), (.ref b18), (.ref b7), (.ref b52), (.ref b52)])) rfl (by rw [hml]; rfl) (Steps.refl _) (a := b52) (argsL := [(.ref b7), (.ref b18), (.ref b21), (.int (p0 &&& (-2 : Int32)))]) (rest := [(.ref b52)]) (lenOf own_pd122 rfl) rfl (by show 2 * 0 + _ ≤ _; exact Nat.le_of_eq rfl) (hb hby at_87) (fun _ _ => ⟨rfl, e52, (by decide : 8 + 0 ≤ _), (by decide : 21 + 0 ≤ _)⟩)
  dsimp only [Pt.U, Pt.locs, Pt.cells, Pt.slots] at X59 l59 y59 z59 st59 hQ59
  subst l59 y59 z59
  obtain ⟨rfl, N59q, Kq59, o59_0⟩ := hQ59
  have N59 := Fr.app N50 N59q
  have Z60 : n0 ≤ T59.heap.size := Nat.le_trans Z53 Kq59.1
  refine Good.back (fun _ k => st59.trans k) ?_
  show Good p e below _ (T59.setTop (mkF m 90 #[.val (.int p0), .val (.int p1), .val (.ref b1), .val (.ref b7), .val (.ref b18), .val (.ref b21), .val (.int (p1 &&& (-2 : Int32))), .val (.ref b34), .val (.ref b43), .unset, .unset, .unset, .unset] [(.ref b52)]))
  refine Good.back (fun _ k => XS.astore X59.here hx rfl (hb hby at_90) rfl rfl (l' := #[.val (.int p0), .val (.int p1), .val (.ref b1), .val (.ref b7), .val (.ref b18), .val (.ref b21), .val (.int (p1 &&& (-2 : Int32))), .val (.ref b34), .val (.ref b43), .val (.ref b52), .unset, .unset, .unset]) rfl k) ?_
  show Good p e below _ (T59.setTop (mkF m 92 #[.val (.int p0), .val (.int p1), .val (.ref b1), .val (.ref b7), .val (.ref b18), .val (.ref b21), .val (.int (p1 &&& (-2 : Int32))), .val (.ref b34), .val (.ref b43), .val (.ref b52), .unset, .unset, .unset] []))
  obtain ⟨T61, h61, X61, e61, E61, A61, D61, -, st61⟩ := newO X59 hx hZ hown (hw _ (List.mem_of_getElem? (i := 54) rfl)) (hw _ (List.mem_of_getElem? (i := 55) rfl)) (hw _ (List.mem_of_getElem? (i := 56) rfl)) rfl (g := (mkF m 92 #[.val (.int p0), .val (.int p1), .val (.ref b1), .val (.ref b7), .val (.ref b18), .val (.ref b21), .val (.int (p1 &&& (-2 : Int32))), .val (.ref b34), .val (.ref b43), .val (.ref b52), .unset, .unset, .unset] [])) rfl (hb hby at_92) (by decide) (by decide)
  obtain ⟨b61, g61⟩ : ∃ z, z = T59.heap.size := ⟨_, rfl⟩
  rw [← g61] at A61 D61 st61
  refine Good.back st61 ?_
  have g_b61 : n0 ≤ b61 := Nat.le_trans Z60 (Nat.le_of_eq g61.symm)
  have Z62 : n0 ≤ h61.size := Nat.le_trans Z60 E61.1
  have f_63 : Exa Z h61 b61 "com/example/vartija/vartija/protocol/CreateRequest" := A61
  have f_64 : Fld Z h61 b61 "com/example/vartija/vartija/protocol/CreateRequest" "path" "Ljava/lang/String;" .null := D61 (Or.inr (hw _ (List.mem_of_getElem? (i := 67) rfl))) (ty := (.object "java/lang/String")) (by decide)
  have f_65 : Fld Z h61 b61 "com/example/vartija/vartija/protocol/CreateRequest" "data" "[B" .null := D61 (Or.inr (hw _ (List.mem_of_getElem? (i := 69) rfl))) (ty := (.array .byte)) (by decide)
  have f_66 : Fld Z h61 b61 "com/example/vartija/vartija/protocol/CreateRequest" "acl" "Ljava/util/List;" .null := D61 (Or.inr (hw _ (List.mem_of_getElem? (i := 71) rfl))) (ty := (.object "java/util/List")) (by decide)
  have f_67 : Fld Z h61 b61 "com/example/vartija/vartija/protocol/CreateRequest" "flags" "I" (.int (0 : Int32)) := D61 (Or.inr (hw _ (List.mem_of_getElem? (i := 73) rfl))) (ty := .int) (by decide)
  show Good p e below _ (T61.setTop (mkF m 95 #[.val (.int p0), .val (.int p1), .val (.ref b1), .val (.ref b7), .val (.ref b18), .val (.ref b21), .val (.int (p1 &&& (-2 : Int32))), .val (.ref b34), .val (.ref b43), .val (.ref b52), .unset, .unset, .unset] [(.ref b61)]))
  refine Good.back (fun _ k => XS.dup X61.here hx rfl (hb hby at_95) rfl rfl k) ?_
  show Good p e below _ (T61.setTop (mkF m 96 #[.val (.int p0), .val (.int p1), .val (.ref b1), .val (.ref b7), .val (.ref b18), .val (.ref b21), .val (.int (p1 &&& (-2 : Int32))), .val (.ref b34), .val (.ref b43), .val (.ref b52), .unset, .unset, .unset] [(.ref b61), (.ref b61)]))
  refine Good.back (fun _ k => XS.aloadN X61.here hx rfl (hb hby at_96) rfl rfl k) ?_
  show Good p e below _ (T61.setTop (mkF m 97 #[.val (.int p0), .val (.int p1), .val (.ref b1), .val (.ref b7), .val (.ref b18), .val (.ref b21), .val (.int (p1 &&& (-2 : Int32))), .val (.ref b34), .val (.ref b43), .val (.ref b52), .unset, .unset, .unset] [(.ref b7), (.ref b61), (.ref b61)]))
  refine Good.back (fun _ k => XS.aload X61.here hx rfl (hb hby at_97) rfl rfl k) ?_
  show Good p e below _ (T61.setTop (mkF m 99 #[.val (.int p0), .val (.int p1), .val (.ref b1), .val (.ref b7), .val (.ref b18), .val (.ref b21), .val (.int (p1 &&& (-2 : Int32))), .val (.ref b34), .val (.ref b43), .val (.ref b52), .unset, .unset, .unset] [(.ref b18), (.ref b7), (.ref b61), (.ref b61)]))
  refine Good.back (fun _ k => XS.aload X61.here hx rfl (hb hby at_99) rfl rfl k) ?_
  show Good p e below _ (T61.setTop (mkF m 101 #[.val (.int p0), .val (.int p1), .val (.ref b1), .val (.ref b7), .val (.ref b18), .val (.ref b21), .val (.int (p1 &&& (-2 : Int32))), .val (.ref b34), .val (.ref b43), .val (.ref b52), .unset, .unset, .unset] [(.ref b21), (.ref b18), (.ref b7), (.ref b61), (.ref b61)]))
  refine Good.back (fun _ k => XS.iloadN X61.here hx rfl (hb hby at_101) rfl k) ?_
  show Good p e below _ (T61.setTop (mkF m 102 #[.val (.int p0), .val (.int p1), .val (.ref b1), .val (.ref b7), .val (.ref b18), .val (.ref b21), .val (.int (p1 &&& (-2 : Int32))), .val (.ref b34), .val (.ref b43), .val (.ref b52), .unset, .unset, .unset] [(.int p0), (.ref b21), (.ref b18), (.ref b7), (.ref b61), (.ref b61)]))
  refine Good.back (fun _ k => XS.iload X61.here hx rfl (hb hby at_102) rfl k) ?_
  show Good p e below _ (T61.setTop (mkF m 104 #[.val (.int p0), .val (.int p1), .val (.ref b1), .val (.ref b7), .val (.ref b18), .val (.ref b21), .val (.int (p1 &&& (-2 : Int32))), .val (.ref b34), .val (.ref b43), .val (.ref b52), .unset, .unset, .unset] [(.int (p1 &&& (-2 : Int32))), (.int p0), (.ref b21), (.ref b18), (.ref b7), (.ref b61), (.ref b61)]))
  refine Good.back (fun _ k => XS.ixor X61.here hx rfl (hb hby at_104) rfl k) ?_
  show Good p e below _ (T61.setTop (mkF m 105 #[.val (.int p0), .val (.int p1), .val (.ref b1), .val (.ref b7), .val (.ref b18), .val (.ref b21), .val (.int (p1 &&& (-2 : Int32))), .val (.ref b34), .val (.ref b43), .val (.ref b52), .unset, .unset, .unset] [(.int (p0 ^^^ (p1 &&& (-2 : Int32)))), (.ref b21), (.ref b18), (.ref b7), (.ref b61), (.ref b61)]))
  obtain ⟨_, _, ⟨T68, L68, k68, n68⟩, -, X68, ⟨Lc68, hQ68, l68, y68, z68⟩, st68⟩ := X61.specialBack hx (y := (⟨"com/example/vartija/vartija/protocol/CreateRequest", "<init>", "(Ljava/lang/String;[BLjava/util/List;I)V"⟩ : MethodName)) rfl hown (mvT hZ (hw _ (List.mem_of_getElem? (i := 57) rfl))) (mvT hZ (hw _ (List.mem_of_getElem? (i := 58) rfl))) (mvT hZ (hw _ (List.mem_of_getElem? (i := 59) rfl))) (by decide) (backOf (W := 1) (rm10 l Z a0 hw [] b61 b7 b18 b21 (p0 ^^^ (p1 &&& (-2 : Int32)))  h61 n0 Z62 f_63 g_b61 f_64 f_65 f_66 f_67) hZ (hw _ (List.mem_of_getElem? (i := 59) rfl)) (hw _ (List.mem_of_getElem? (i := 56) rfl)) (by decide) (by decide)) (g := (mkF m 105 #[.val (.int p0), .val (.int p1), .val (.ref b1), .val (.ref b7), .val (.ref b18), .val (.ref b21), .val (.int (p1 &&& (-2 : Int32))), .val (.ref b34), .val (.ref b43), .val (.ref b52), .unset, .unset, .unset] [(.int (p0 ^^^ (p1 &&& (-2 : Int32)))), (.ref b21), (.ref b18), (.ref b7), (.ref b61), (.ref b61)])) rfl (by rw [hml]; rfl) (Steps.refl _) (a := b61) (argsL := [(.ref b7), (.ref b18), (.ref b21), (.int (p0 ^^^ (p1 &&& (-2 : Int32))))]) (rest := [(.ref b61)]) (lenOf own_pd122 rfl) rfl (by show 2 * 0 + _ ≤ _; exact Nat.le_of_eq rfl) (hb hby at_105) (fun _ _ => ⟨rfl, e61, (by decide : 9 + 0 ≤ _), (by decide : 25 + 0 ≤ _)⟩)
  dsimp only [Pt.U, Pt.locs, Pt.cells, Pt.slots] at X68 l68 y68 z68 st68 hQ68
  subst l68 y68 z68
  obtain ⟨rfl, N68q, Kq68, o68_0⟩ := hQ68
  have N68 := Fr.app N59 N68q
  have Z69 : n0 ≤ T68.heap.size := Nat.le_trans Z62 Kq68.1
  refine Good.back (fun _ k => st68.trans k) ?_
  show Good p e below _ (T68.setTop (mkF m 108 #[.val (.int p0), .val (.int p1), .val (.ref b1), .val (.ref b7), .val (.ref b18), .val (.ref b21), .val (.int (p1 &&& (-2 : Int32))), .val (.ref b34), .val (.ref b43), .val (.ref b52), .unset, .unset, .unset] [(.ref b61)]))
  refine Good.back (fun _ k => XS.astore X68.here hx rfl (hb hby at_108) rfl rfl (l' := #[.val (.int p0), .val (.int p1), .val (.ref b1), .val (.ref b7), .val (.ref b18), .val (.ref b21), .val (.int (p1 &&& (-2 : Int32))), .val (.ref b34), .val (.ref b43), .val (.ref b52), .val (.ref b61), .unset, .unset]) rfl k) ?_
  show Good p e below _ (T68.setTop (mkF m 110 #[.val (.int p0), .val (.int p1), .val (.ref b1), .val (.ref b7), .val (.ref b18), .val (.ref b21), .val (.int (p1 &&& (-2 : Int32))), .val (.ref b34), .val (.ref b43), .val (.ref b52), .val (.ref b61), .unset, .unset] []))
  refine Good.back (fun _ k => XS.aload X68.here hx rfl (hb hby at_110) rfl rfl k) ?_
  show Good p e below _ (T68.setTop (mkF m 112 #[.val (.int p0), .val (.int p1), .val (.ref b1), .val (.ref b7), .val (.ref b18), .val (.ref b21), .val (.int (p1 &&& (-2 : Int32))), .val (.ref b34), .val (.ref b43), .val (.ref b52), .val (.ref b61), .unset, .unset] [(.ref b34)]))
  have f_71 : Fld Z h43 b34 "com/example/vartija/vartija/protocol/CreateRequest" "flags" "I" (.int p0) := Fld.ext E43 o41_0
  have ne_b34_b43_73 : b34 ≠ b43 := Nat.ne_of_lt (Nat.lt_of_lt_of_le o41_0.lt (Nat.le_of_eq g43.symm))
  have f_72 : Fld Z T50.heap b34 "com/example/vartija/vartija/protocol/CreateRequest" "flags" "I" (.int p0) := Fld.keep f_71 Kq50 (ninS ne_b34_b43_73 nin0)
  have f_74 : Fld Z h52 b34 "com/example/vartija/vartija/protocol/CreateRequest" "flags" "I" (.int p0) := Fld.ext E52 f_72
  have f_76 : Fld Z h43 b34 "com/example/vartija/vartija/protocol/CreateRequest" "flags" "I" (.int p0) := Fld.ext E43 o41_0
  have f_77 : Fld Z T50.heap b34 "com/example/vartija/vartija/protocol/CreateRequest" "flags" "I" (.int p0) := Fld.keep f_76 Kq50 (ninS ne_b34_b43_73 nin0)
  have ne_b34_b52_78 : b34 ≠ b52 := Nat.ne_of_lt (Nat.lt_of_lt_of_le f_77.lt (Nat.le_of_eq g52.symm))
  have f_75 : Fld Z T59.heap b34 "com/example/vartija/vartija/protocol/CreateRequest" "flags" "I" (.int p0) := Fld.keep f_74 Kq59 (ninS ne_b34_b52_78 nin0)
  have f_79 : Fld Z h61 b34 "com/example/vartija/vartija/protocol/CreateRequest" "flags" "I" (.int p0) := Fld.ext E61 f_75
  have f_81 : Fld Z h43 b34 "com/example/vartija/vartija/protocol/CreateRequest" "flags" "I" (.int p0) := Fld.ext E43 o41_0
  have f_82 : Fld Z T50.heap b34 "com/example/vartija/vartija/protocol/CreateRequest" "flags" "I" (.int p0) := Fld.keep f_81 Kq50 (ninS ne_b34_b43_73 nin0)
  have f_83 : Fld Z h52 b34 "com/example/vartija/vartija/protocol/CreateRequest" "flags" "I" (.int p0) := Fld.ext E52 f_82
  have f_84 : Fld Z T59.heap b34 "com/example/vartija/vartija/protocol/CreateRequest" "flags" "I" (.int p0) := Fld.keep f_83 Kq59 (ninS ne_b34_b52_78 nin0)
  have ne_b34_b61_85 : b34 ≠ b61 := Nat.ne_of_lt (Nat.lt_of_lt_of_le f_84.lt (Nat.le_of_eq g61.symm))
  have f_80 : Fld Z T68.heap b34 "com/example/vartija/vartija/protocol/CreateRequest" "flags" "I" (.int p0) := Fld.keep f_79 Kq68 (ninS ne_b34_b61_85 nin0)
  have f_86 : Exa Z T41.heap b34 "com/example/vartija/vartija/protocol/CreateRequest" := Exa.keep f_36 Kq41
  have f_87 : Exa Z h43 b34 "com/example/vartija/vartija/protocol/CreateRequest" := Exa.ext E43 f_86
  have f_88 : Exa Z T50.heap b34 "com/example/vartija/vartija/protocol/CreateRequest" := Exa.keep f_87 Kq50
  have f_89 : Exa Z h52 b34 "com/example/vartija/vartija/protocol/CreateRequest" := Exa.ext E52 f_88
  have f_90 : Exa Z T59.heap b34 "com/example/vartija/vartija/protocol/CreateRequest" := Exa.keep f_89 Kq59
  have f_91 : Exa Z h61 b34 "com/example/vartija/vartija/protocol/CreateRequest" := Exa.ext E61 f_90
  have f_92 : Exa Z T68.heap b34 "com/example/vartija/vartija/protocol/CreateRequest" := Exa.keep f_91 Kq68
  obtain ⟨cq70, kq70, q70a, q70b, q70c⟩ := isOf hZ rfl f_92
  obtain ⟨_, _, ⟨T70, L70, k70, n70⟩, -, X70, ⟨Lc70, hQ70, l70, y70, z70⟩, st70⟩ := X68.virtualBack hx (y := (⟨"com/example/vartija/vartija/protocol/CreateRequest", "ephemeral", "()Z"⟩ : MethodName)) (z := (⟨"com/example/vartija/vartija/protocol/CreateRequest", "ephemeral", "()Z"⟩ : MethodName)) hown (mvT hZ (hw _ (List.mem_of_getElem? (i := 74) rfl))) (mvT hZ (hw _ (List.mem_of_getElem? (i := 75) rfl))) (notFace_of_selects (args := #[]) (mvT hZ (hw _ (List.mem_of_getElem? (i := 77) rfl)))) (mvT hZ (hw _ (List.mem_of_getElem? (i := 77) rfl))) (mvT hZ (hw _ (List.mem_of_getElem? (i := 76) rfl))) (by decide) (backOf (W := 0) (rm12 l Z a0 hw [] b34 p0 T68.heap n0 Z69 f_80) hZ (hw _ (List.mem_of_getElem? (i := 78) rfl)) (hw _ (List.mem_of_getElem? (i := 56) rfl)) (by decide) (by decide)) q70a q70c (g := (mkF m 112 #[.val (.int p0), .val (.int p1), .val (.ref b1), .val (.ref b7), .val (.ref b18), .val (.ref b21), .val (.int (p1 &&& (-2 : Int32))), .val (.ref b34), .val (.ref b43), .val (.ref b52), .val (.ref b61), .unset, .unset] [(.ref b34)])) rfl (by rw [hml]; rfl) (Steps.refl _) (argsL := []) (rest := []) (lenOf own_pd123 rfl) rfl (by show 2 * 0 + _ ≤ _; exact Nat.le_of_eq rfl) (hb hby at_112) (fun _ _ => ⟨rfl, rfl, (by decide : 9 + 0 ≤ _), (by decide : 25 + 0 ≤ _)⟩)
  dsimp only [Pt.U, Pt.locs, Pt.cells, Pt.slots] at X70 l70 y70 z70 st70 hQ70
  subst l70 y70 z70
  obtain ⟨rfl, N70q, eh70⟩ := hQ70
  have N70 := Fr.app N68 N70q
  refine Good.back (fun _ k => st70.trans k) ?_
  show Good p e below _ (T70.setTop (mkF m 115 #[.val (.int p0), .val (.int p1), .val (.ref b1), .val (.ref b7), .val (.ref b18), .val (.ref b21), .val (.int (p1 &&& (-2 : Int32))), .val (.ref b34), .val (.ref b43), .val (.ref b52), .val (.ref b61), .unset, .unset] [(.int (if (p0 &&& 1) = 0 then (0 : Int32) else (1 : Int32)))]))
  by_cases hb93 : p0 &&& 1 = 0
  · rw [if_pos hb93]
    show Good p e below _ (T70.setTop (mkF m 115 #[.val (.int p0), .val (.int p1), .val (.ref b1), .val (.ref b7), .val (.ref b18), .val (.ref b21), .val (.int (p1 &&& (-2 : Int32))), .val (.ref b34), .val (.ref b43), .val (.ref b52), .val (.ref b61), .unset, .unset] [(.int (0 : Int32))]))
    refine Good.back (fun _ k => XS.istore X70.here hx rfl (hb hby at_115) rfl (l' := #[.val (.int p0), .val (.int p1), .val (.ref b1), .val (.ref b7), .val (.ref b18), .val (.ref b21), .val (.int (p1 &&& (-2 : Int32))), .val (.ref b34), .val (.ref b43), .val (.ref b52), .val (.ref b61), .val (.int (0 : Int32)), .unset]) rfl k) ?_
    show Good p e below _ (T70.setTop (mkF m 117 #[.val (.int p0), .val (.int p1), .val (.ref b1), .val (.ref b7), .val (.ref b18), .val (.ref b21), .val (.int (p1 &&& (-2 : Int32))), .val (.ref b34), .val (.ref b43), .val (.ref b52), .val (.ref b61), .val (.int (0 : Int32)), .unset] []))
    refine Good.back (fun _ k => XS.iloadN X70.here hx rfl (hb hby at_117) rfl k) ?_
    show Good p e below _ (T70.setTop (mkF m 118 #[.val (.int p0), .val (.int p1), .val (.ref b1), .val (.ref b7), .val (.ref b18), .val (.ref b21), .val (.int (p1 &&& (-2 : Int32))), .val (.ref b34), .val (.ref b43), .val (.ref b52), .val (.ref b61), .val (.int (0 : Int32)), .unset] [(.int p0)]))
    refine Good.back (fun _ k => XS.iconst X70.here hx rfl (hb hby at_118) k) ?_
    show Good p e below _ (T70.setTop (mkF m 119 #[.val (.int p0), .val (.int p1), .val (.ref b1), .val (.ref b7), .val (.ref b18), .val (.ref b21), .val (.int (p1 &&& (-2 : Int32))), .val (.ref b34), .val (.ref b43), .val (.ref b52), .val (.ref b61), .val (.int (0 : Int32)), .unset] [(.int (2 : Int32)), (.int p0)]))
    refine Good.back (fun _ k => iremM (g := (mkF m 119 #[.val (.int p0), .val (.int p1), .val (.ref b1), .val (.ref b7), .val (.ref b18), .val (.ref b21), .val (.int (p1 &&& (-2 : Int32))), .val (.ref b34), .val (.ref b43), .val (.ref b52), .val (.ref b61), .val (.int (0 : Int32)), .unset] [(.int (2 : Int32)), (.int p0)])) X70 hx rfl (hb hby at_119) rfl (by decide) k) ?_
    show Good p e below _ (T70.setTop (mkF m 120 #[.val (.int p0), .val (.int p1), .val (.ref b1), .val (.ref b7), .val (.ref b18), .val (.ref b21), .val (.int (p1 &&& (-2 : Int32))), .val (.ref b34), .val (.ref b43), .val (.ref b52), .val (.ref b61), .val (.int (0 : Int32)), .unset] [(.int (p0 % (2 : Int32)))]))
    refine Good.back (fun _ k => XS.ifYes X70.here hx rfl (pc0 := 120) (pc' := 127) rfl (hb hby at_120) rfl ((if0 _ _).trans (teq ((own_odd p0).mpr hb93)).1) (by decide) (by decide) k) ?_
    show Good p e below _ (T70.setTop (mkF m 127 #[.val (.int p0), .val (.int p1), .val (.ref b1), .val (.ref b7), .val (.ref b18), .val (.ref b21), .val (.int (p1 &&& (-2 : Int32))), .val (.ref b34), .val (.ref b43), .val (.ref b52), .val (.ref b61), .val (.int (0 : Int32)), .unset] []))
    refine Good.back (fun _ k => XS.iconst X70.here hx rfl (hb hby at_127) k) ?_
    show Good p e below _ (T70.setTop (mkF m 128 #[.val (.int p0), .val (.int p1), .val (.ref b1), .val (.ref b7), .val (.ref b18), .val (.ref b21), .val (.int (p1 &&& (-2 : Int32))), .val (.ref b34), .val (.ref b43), .val (.ref b52), .val (.ref b61), .val (.int (0 : Int32)), .unset] [(.int (0 : Int32))]))
    refine Good.back (fun _ k => XS.istore X70.here hx rfl (hb hby at_128) rfl (l' := #[.val (.int p0), .val (.int p1), .val (.ref b1), .val (.ref b7), .val (.ref b18), .val (.ref b21), .val (.int (p1 &&& (-2 : Int32))), .val (.ref b34), .val (.ref b43), .val (.ref b52), .val (.ref b61), .val (.int (0 : Int32)), .val (.int (0 : Int32))]) rfl k) ?_
    show Good p e below _ (T70.setTop (mkF m 130 #[.val (.int p0), .val (.int p1), .val (.ref b1), .val (.ref b7), .val (.ref b18), .val (.ref b21), .val (.int (p1 &&& (-2 : Int32))), .val (.ref b34), .val (.ref b43), .val (.ref b52), .val (.ref b61), .val (.int (0 : Int32)), .val (.int (0 : Int32))] []))
    refine Good.back (fun _ k => XS.aload X70.here hx rfl (hb hby at_130) rfl rfl k) ?_
    show Good p e below _ (T70.setTop (mkF m 132 #[.val (.int p0), .val (.int p1), .val (.ref b1), .val (.ref b7), .val (.ref b18), .val (.ref b21), .val (.int (p1 &&& (-2 : Int32))), .val (.ref b34), .val (.ref b43), .val (.ref b52), .val (.ref b61), .val (.int (0 : Int32)), .val (.int (0 : Int32))] [(.ref b43)]))
    have f_95 : Fld Z h52 b43 "com/example/vartija/vartija/protocol/CreateRequest" "flags" "I" (.int (p0 ||| (1 : Int32))) := Fld.ext E52 o50_0
    have ne_b43_b52_97 : b43 ≠ b52 := Nat.ne_of_lt (Nat.lt_of_lt_of_le o50_0.lt (Nat.le_of_eq g52.symm))
    have f_96 : Fld Z T59.heap b43 "com/example/vartija/vartija/protocol/CreateRequest" "flags" "I" (.int (p0 ||| (1 : Int32))) := Fld.keep f_95 Kq59 (ninS ne_b43_b52_97 nin0)
    have f_98 : Fld Z h61 b43 "com/example/vartija/vartija/protocol/CreateRequest" "flags" "I" (.int (p0 ||| (1 : Int32))) := Fld.ext E61 f_96
    have f_100 : Fld Z h52 b43 "com/example/vartija/vartija/protocol/CreateRequest" "flags" "I" (.int (p0 ||| (1 : Int32))) := Fld.ext E52 o50_0
    have f_101 : Fld Z T59.heap b43 "com/example/vartija/vartija/protocol/CreateRequest" "flags" "I" (.int (p0 ||| (1 : Int32))) := Fld.keep f_100 Kq59 (ninS ne_b43_b52_97 nin0)
    have ne_b43_b61_102 : b43 ≠ b61 := Nat.ne_of_lt (Nat.lt_of_lt_of_le f_101.lt (Nat.le_of_eq g61.symm))
    have f_99 : Fld Z T68.heap b43 "com/example/vartija/vartija/protocol/CreateRequest" "flags" "I" (.int (p0 ||| (1 : Int32))) := Fld.keep f_98 Kq68 (ninS ne_b43_b61_102 nin0)
    have f_103 : Exa Z T50.heap b43 "com/example/vartija/vartija/protocol/CreateRequest" := Exa.keep f_45 Kq50
    have f_104 : Exa Z h52 b43 "com/example/vartija/vartija/protocol/CreateRequest" := Exa.ext E52 f_103
    have f_105 : Exa Z T59.heap b43 "com/example/vartija/vartija/protocol/CreateRequest" := Exa.keep f_104 Kq59
    have f_106 : Exa Z h61 b43 "com/example/vartija/vartija/protocol/CreateRequest" := Exa.ext E61 f_105
    have f_107 : Exa Z T68.heap b43 "com/example/vartija/vartija/protocol/CreateRequest" := Exa.keep f_106 Kq68
    obtain ⟨cq94, kq94, q94a, q94b, q94c⟩ := isOf hZ eh70 f_107
    obtain ⟨_, _, ⟨T94, L94, k94, n94⟩, -, X94, ⟨Lc94, hQ94, l94, y94, z94⟩, st94⟩ := X70.virtualBack hx (y := (⟨"com/example/vartija/vartija/protocol/CreateRequest", "ephemeral", "()Z"⟩ : MethodName)) (z := (⟨"com/example/vartija/vartija/protocol/CreateRequest", "ephemeral", "()Z"⟩ : MethodName)) hown (mvT hZ (hw _ (List.mem_of_getElem? (i := 74) rfl))) (mvT hZ (hw _ (List.mem_of_getElem? (i := 75) rfl))) (notFace_of_selects (args := #[]) (mvT hZ (hw _ (List.mem_of_getElem? (i := 77) rfl)))) (mvT hZ (hw _ (List.mem_of_getElem? (i := 77) rfl))) (mvT hZ (hw _ (List.mem_of_getElem? (i := 76) rfl))) (by decide) (backOf (W := 0) (rm12 l Z a0 hw [] b43 (p0 ||| (1 : Int32)) T68.heap n0 Z69 f_99) hZ (hw _ (List.mem_of_getElem? (i := 78) rfl)) (hw _ (List.mem_of_getElem? (i := 56) rfl)) (by decide) (by decide)) q94a q94c (g := (mkF m 132 #[.val (.int p0), .val (.int p1), .val (.ref b1), .val (.ref b7), .val (.ref b18), .val (.ref b21), .val (.int (p1 &&& (-2 : Int32))), .val (.ref b34), .val (.ref b43), .val (.ref b52), .val (.ref b61), .val (.int (0 : Int32)), .val (.int (0 : Int32))] [(.ref b43)])) rfl (by rw [hml]; rfl) (Steps.refl _) (argsL := []) (rest := []) (lenOf own_pd123 rfl) rfl (by show 2 * 0 + _ ≤ _; exact Nat.le_of_eq rfl) (hb hby at_132) (fun _ _ => ⟨rfl, eh70, (by decide : 9 + 0 ≤ _), (by decide : 25 + 0 ≤ _)⟩)
    dsimp only [Pt.U, Pt.locs, Pt.cells, Pt.slots] at X94 l94 y94 z94 st94 hQ94
    subst l94 y94 z94
    obtain ⟨rfl, N94q, eh94⟩ := hQ94
    have N94 := Fr.app N70 N94q
    refine Good.back (fun _ k => st94.trans k) ?_
    show Good p e below _ (T94.setTop (mkF m 135 #[.val (.int p0), .val (.int p1), .val (.ref b1), .val (.ref b7), .val (.ref b18), .val (.ref b21), .val (.int (p1 &&& (-2 : Int32))), .val (.ref b34), .val (.ref b43), .val (.ref b52), .val (.ref b61), .val (.int (0 : Int32)), .val (.int (0 : Int32))] [(.int (if ((p0 ||| (1 : Int32)) &&& 1) = 0 then (0 : Int32) else (1 : Int32)))]))
    rw [show ((if ((p0 ||| (1 : Int32)) &&& 1) = 0 then (0 : Int32) else (1 : Int32)) : Int32) = (1 : Int32) from if_neg (own_set p0)]
    show Good p e below _ (T94.setTop (mkF m 135 #[.val (.int p0), .val (.int p1), .val (.ref b1), .val (.ref b7), .val (.ref b18), .val (.ref b21), .val (.int (p1 &&& (-2 : Int32))), .val (.ref b34), .val (.ref b43), .val (.ref b52), .val (.ref b61), .val (.int (0 : Int32)), .val (.int (0 : Int32))] [(.int (1 : Int32))]))
    refine Good.back (fun _ k => XS.ifNo X94.here hx rfl (hb hby at_135) rfl ((if0 _ _).trans (feq (by decide : ¬ ((1 : Int32) = (0 : Int32)))).1) k) ?_
    show Good p e below _ (T94.setTop (mkF m 138 #[.val (.int p0), .val (.int p1), .val (.ref b1), .val (.ref b7), .val (.ref b18), .val (.ref b21), .val (.int (p1 &&& (-2 : Int32))), .val (.ref b34), .val (.ref b43), .val (.ref b52), .val (.ref b61), .val (.int (0 : Int32)), .val (.int (0 : Int32))] []))
    refine Good.back (fun _ k => XS.aload X94.here hx rfl (hb hby at_138) rfl rfl k) ?_
    show Good p e below _ (T94.setTop (mkF m 140 #[.val (.int p0), .val (.int p1), .val (.ref b1), .val (.ref b7), .val (.ref b18), .val (.ref b21), .val (.int (p1 &&& (-2 : Int32))), .val (.ref b34), .val (.ref b43), .val (.ref b52), .val (.ref b61), .val (.int (0 : Int32)), .val (.int (0 : Int32))] [(.ref b52)]))
    have f_109 : Fld Z h61 b52 "com/example/vartija/vartija/protocol/CreateRequest" "flags" "I" (.int (p0 &&& (-2 : Int32))) := Fld.ext E61 o59_0
    have ne_b52_b61_111 : b52 ≠ b61 := Nat.ne_of_lt (Nat.lt_of_lt_of_le o59_0.lt (Nat.le_of_eq g61.symm))
    have f_110 : Fld Z T68.heap b52 "com/example/vartija/vartija/protocol/CreateRequest" "flags" "I" (.int (p0 &&& (-2 : Int32))) := Fld.keep f_109 Kq68 (ninS ne_b52_b61_111 nin0)
    have f_112 : Exa Z T59.heap b52 "com/example/vartija/vartija/protocol/CreateRequest" := Exa.keep f_54 Kq59
    have f_113 : Exa Z h61 b52 "com/example/vartija/vartija/protocol/CreateRequest" := Exa.ext E61 f_112
    have f_114 : Exa Z T68.heap b52 "com/example/vartija/vartija/protocol/CreateRequest" := Exa.keep f_113 Kq68
    obtain ⟨cq108, kq108, q108a, q108b, q108c⟩ := isOf hZ eh94 f_114
    obtain ⟨_, _, ⟨T108, L108, k108, n108⟩, -, X108, ⟨Lc108, hQ108, l108, y108, z108⟩, st108⟩ := X94.virtualBack hx (y := (⟨"com/example/vartija/vartija/protocol/CreateRequest", "ephemeral", "()Z"⟩ : MethodName)) (z := (⟨"com/example/vartija/vartija/protocol/CreateRequest", "ephemeral", "()Z"⟩ : MethodName)) hown (mvT hZ (hw _ (List.mem_of_getElem? (i := 74) rfl))) (mvT hZ (hw _ (List.mem_of_getElem? (i := 75) rfl))) (notFace_of_selects (args := #[]) (mvT hZ (hw _ (List.mem_of_getElem? (i := 77) rfl)))) (mvT hZ (hw _ (List.mem_of_getElem? (i := 77) rfl))) (mvT hZ (hw _ (List.mem_of_getElem? (i := 76) rfl))) (by decide) (backOf (W := 0) (rm12 l Z a0 hw [] b52 (p0 &&& (-2 : Int32)) T68.heap n0 Z69 f_110) hZ (hw _ (List.mem_of_getElem? (i := 78) rfl)) (hw _ (List.mem_of_getElem? (i := 56) rfl)) (by decide) (by decide)) q108a q108c (g := (mkF m 140 #[.val (.int p0), .val (.int p1), .val (.ref b1), .val (.ref b7), .val (.ref b18), .val (.ref b21), .val (.int (p1 &&& (-2 : Int32))), .val (.ref b34), .val (.ref b43), .val (.ref b52), .val (.ref b61), .val (.int (0 : Int32)), .val (.int (0 : Int32))] [(.ref b52)])) rfl (by rw [hml]; rfl) (Steps.refl _) (argsL := []) (rest := []) (lenOf own_pd123 rfl) rfl (by show 2 * 0 + _ ≤ _; exact Nat.le_of_eq rfl) (hb hby at_140) (fun _ _ => ⟨rfl, eh94, (by decide : 9 + 0 ≤ _), (by decide : 25 + 0 ≤ _)⟩)
    dsimp only [Pt.U, Pt.locs, Pt.cells, Pt.slots] at X108 l108 y108 z108 st108 hQ108
    subst l108 y108 z108
    obtain ⟨rfl, N108q, eh108⟩ := hQ108
    have N108 := Fr.app N94 N108q
    refine Good.back (fun _ k => st108.trans k) ?_
    show Good p e below _ (T108.setTop (mkF m 143 #[.val (.int p0), .val (.int p1), .val (.ref b1), .val (.ref b7), .val (.ref b18), .val (.ref b21), .val (.int (p1 &&& (-2 : Int32))), .val (.ref b34), .val (.ref b43), .val (.ref b52), .val (.ref b61), .val (.int (0 : Int32)), .val (.int (0 : Int32))] [(.int (if ((p0 &&& (-2 : Int32)) &&& 1) = 0 then (0 : Int32) else (1 : Int32)))]))
    rw [show ((if ((p0 &&& (-2 : Int32)) &&& 1) = 0 then (0 : Int32) else (1 : Int32)) : Int32) = (0 : Int32) from if_pos (own_clear p0)]
    show Good p e below _ (T108.setTop (mkF m 143 #[.val (.int p0), .val (.int p1), .val (.ref b1), .val (.ref b7), .val (.ref b18), .val (.ref b21), .val (.int (p1 &&& (-2 : Int32))), .val (.ref b34), .val (.ref b43), .val (.ref b52), .val (.ref b61), .val (.int (0 : Int32)), .val (.int (0 : Int32))] [(.int (0 : Int32))]))
    refine Good.back (fun _ k => XS.ifNo X108.here hx rfl (hb hby at_143) rfl ((if0 _ _).trans (teq (by decide : ((0 : Int32) = (0 : Int32)))).2) k) ?_
    show Good p e below _ (T108.setTop (mkF m 146 #[.val (.int p0), .val (.int p1), .val (.ref b1), .val (.ref b7), .val (.ref b18), .val (.ref b21), .val (.int (p1 &&& (-2 : Int32))), .val (.ref b34), .val (.ref b43), .val (.ref b52), .val (.ref b61), .val (.int (0 : Int32)), .val (.int (0 : Int32))] []))
    refine Good.back (fun _ k => XS.iload X108.here hx rfl (hb hby at_146) rfl k) ?_
    show Good p e below _ (T108.setTop (mkF m 148 #[.val (.int p0), .val (.int p1), .val (.ref b1), .val (.ref b7), .val (.ref b18), .val (.ref b21), .val (.int (p1 &&& (-2 : Int32))), .val (.ref b34), .val (.ref b43), .val (.ref b52), .val (.ref b61), .val (.int (0 : Int32)), .val (.int (0 : Int32))] [(.int (0 : Int32))]))
    refine Good.back (fun _ k => XS.iload X108.here hx rfl (hb hby at_148) rfl k) ?_
    show Good p e below _ (T108.setTop (mkF m 150 #[.val (.int p0), .val (.int p1), .val (.ref b1), .val (.ref b7), .val (.ref b18), .val (.ref b21), .val (.int (p1 &&& (-2 : Int32))), .val (.ref b34), .val (.ref b43), .val (.ref b52), .val (.ref b61), .val (.int (0 : Int32)), .val (.int (0 : Int32))] [(.int (0 : Int32)), (.int (0 : Int32))]))
    refine Good.back (fun _ k => XS.icmpNo X108.here hx rfl (hb hby at_150) rfl (teq (by decide : ((0 : Int32) = (0 : Int32)))).2 k) ?_
    show Good p e below _ (T108.setTop (mkF m 153 #[.val (.int p0), .val (.int p1), .val (.ref b1), .val (.ref b7), .val (.ref b18), .val (.ref b21), .val (.int (p1 &&& (-2 : Int32))), .val (.ref b34), .val (.ref b43), .val (.ref b52), .val (.ref b61), .val (.int (0 : Int32)), .val (.int (0 : Int32))] []))
    refine Good.back (fun _ k => XS.aload X108.here hx rfl (hb hby at_153) rfl rfl k) ?_
    show Good p e below _ (T108.setTop (mkF m 155 #[.val (.int p0), .val (.int p1), .val (.ref b1), .val (.ref b7), .val (.ref b18), .val (.ref b21), .val (.int (p1 &&& (-2 : Int32))), .val (.ref b34), .val (.ref b43), .val (.ref b52), .val (.ref b61), .val (.int (0 : Int32)), .val (.int (0 : Int32))] [(.ref b61)]))
    have f_116 : Exa Z T68.heap b61 "com/example/vartija/vartija/protocol/CreateRequest" := Exa.keep f_63 Kq68
    obtain ⟨cq115, kq115, q115a, q115b, q115c⟩ := isOf hZ eh108 f_116
    obtain ⟨_, _, ⟨T115, L115, k115, n115⟩, -, X115, ⟨Lc115, hQ115, l115, y115, z115⟩, st115⟩ := X108.virtualBack hx (y := (⟨"com/example/vartija/vartija/protocol/CreateRequest", "ephemeral", "()Z"⟩ : MethodName)) (z := (⟨"com/example/vartija/vartija/protocol/CreateRequest", "ephemeral", "()Z"⟩ : MethodName)) hown (mvT hZ (hw _ (List.mem_of_getElem? (i := 74) rfl))) (mvT hZ (hw _ (List.mem_of_getElem? (i := 75) rfl))) (notFace_of_selects (args := #[]) (mvT hZ (hw _ (List.mem_of_getElem? (i := 77) rfl)))) (mvT hZ (hw _ (List.mem_of_getElem? (i := 77) rfl))) (mvT hZ (hw _ (List.mem_of_getElem? (i := 76) rfl))) (by decide) (backOf (W := 0) (rm12 l Z a0 hw [] b61 (p0 ^^^ (p1 &&& (-2 : Int32))) T68.heap n0 Z69 o68_0) hZ (hw _ (List.mem_of_getElem? (i := 78) rfl)) (hw _ (List.mem_of_getElem? (i := 56) rfl)) (by decide) (by decide)) q115a q115c (g := (mkF m 155 #[.val (.int p0), .val (.int p1), .val (.ref b1), .val (.ref b7), .val (.ref b18), .val (.ref b21), .val (.int (p1 &&& (-2 : Int32))), .val (.ref b34), .val (.ref b43), .val (.ref b52), .val (.ref b61), .val (.int (0 : Int32)), .val (.int (0 : Int32))] [(.ref b61)])) rfl (by rw [hml]; rfl) (Steps.refl _) (argsL := []) (rest := []) (lenOf own_pd123 rfl) rfl (by show 2 * 0 + _ ≤ _; exact Nat.le_of_eq rfl) (hb hby at_155) (fun _ _ => ⟨rfl, eh108, (by decide : 9 + 0 ≤ _), (by decide : 25 + 0 ≤ _)⟩)
    dsimp only [Pt.U, Pt.locs, Pt.cells, Pt.slots] at X115 l115 y115 z115 st115 hQ115
    subst l115 y115 z115
    obtain ⟨rfl, N115q, eh115⟩ := hQ115
    have N115 := Fr.app N108 N115q
    refine Good.back (fun _ k => st115.trans k) ?_
    show Good p e below _ (T115.setTop (mkF m 158 #[.val (.int p0), .val (.int p1), .val (.ref b1), .val (.ref b7), .val (.ref b18), .val (.ref b21), .val (.int (p1 &&& (-2 : Int32))), .val (.ref b34), .val (.ref b43), .val (.ref b52), .val (.ref b61), .val (.int (0 : Int32)), .val (.int (0 : Int32))] [(.int (if ((p0 ^^^ (p1 &&& (-2 : Int32))) &&& 1) = 0 then (0 : Int32) else (1 : Int32)))]))
    rw [show ((if ((p0 ^^^ (p1 &&& (-2 : Int32))) &&& 1) = 0 then (0 : Int32) else (1 : Int32)) : Int32) = (0 : Int32) from if_pos ((own_flip p0 p1).mpr hb93)]
    show Good p e below _ (T115.setTop (mkF m 158 #[.val (.int p0), .val (.int p1), .val (.ref b1), .val (.ref b7), .val (.ref b18), .val (.ref b21), .val (.int (p1 &&& (-2 : Int32))), .val (.ref b34), .val (.ref b43), .val (.ref b52), .val (.ref b61), .val (.int (0 : Int32)), .val (.int (0 : Int32))] [(.int (0 : Int32))]))
    refine Good.back (fun _ k => XS.iload X115.here hx rfl (hb hby at_158) rfl k) ?_
    show Good p e below _ (T115.setTop (mkF m 160 #[.val (.int p0), .val (.int p1), .val (.ref b1), .val (.ref b7), .val (.ref b18), .val (.ref b21), .val (.int (p1 &&& (-2 : Int32))), .val (.ref b34), .val (.ref b43), .val (.ref b52), .val (.ref b61), .val (.int (0 : Int32)), .val (.int (0 : Int32))] [(.int (0 : Int32)), (.int (0 : Int32))]))
    refine Good.back (fun _ k => XS.icmpNo X115.here hx rfl (hb hby at_160) rfl (teq (by decide : ((0 : Int32) = (0 : Int32)))).2 k) ?_
    show Good p e below _ (T115.setTop (mkF m 163 #[.val (.int p0), .val (.int p1), .val (.ref b1), .val (.ref b7), .val (.ref b18), .val (.ref b21), .val (.int (p1 &&& (-2 : Int32))), .val (.ref b34), .val (.ref b43), .val (.ref b52), .val (.ref b61), .val (.int (0 : Int32)), .val (.int (0 : Int32))] []))
    refine Good.back (fun _ k => XS.iconst X115.here hx rfl (hb hby at_163) k) ?_
    show Good p e below _ (T115.setTop (mkF m 164 #[.val (.int p0), .val (.int p1), .val (.ref b1), .val (.ref b7), .val (.ref b18), .val (.ref b21), .val (.int (p1 &&& (-2 : Int32))), .val (.ref b34), .val (.ref b43), .val (.ref b52), .val (.ref b61), .val (.int (0 : Int32)), .val (.int (0 : Int32))] [(.int (1 : Int32))]))
    refine Good.back (fun _ k => XS.goto X115.here hx rfl (pc0 := 164) (pc' := 168) rfl (hb hby at_164) (by decide) (by decide) k) ?_
    show Good p e below _ (T115.setTop (mkF m 168 #[.val (.int p0), .val (.int p1), .val (.ref b1), .val (.ref b7), .val (.ref b18), .val (.ref b21), .val (.int (p1 &&& (-2 : Int32))), .val (.ref b34), .val (.ref b43), .val (.ref b52), .val (.ref b61), .val (.int (0 : Int32)), .val (.int (0 : Int32))] [(.int (1 : Int32))]))
    obtain ⟨fs117, hr117, hrun117, hended117, hW117, hsame117⟩ := X115.leave (v := some (.int (1 : Int32))) (fun h => by rw [Bd.returns] at h; cases h)
    refine Good.done (retN X115 hx (t := .boolean) Bd.returns (by simp) (hb hby at_168) hr117) hrun117 hended117 ⟨_, _, rfl, ?_, ⟨_, rfl⟩, hW117, hsame117.mono (by decide) (by decide)⟩
    show Q0 Z p0 p1 cs de h0 n0 _ T115.heap _
    rw [eh115]
    exact ⟨rfl, N115⟩
  · rw [if_neg hb93]
    show Good p e below _ (T70.setTop (mkF m 115 #[.val (.int p0), .val (.int p1), .val (.ref b1), .val (.ref b7), .val (.ref b18), .val (.ref b21), .val (.int (p1 &&& (-2 : Int32))), .val (.ref b34), .val (.ref b43), .val (.ref b52), .val (.ref b61), .unset, .unset] [(.int (1 : Int32))]))
    refine Good.back (fun _ k => XS.istore X70.here hx rfl (hb hby at_115) rfl (l' := #[.val (.int p0), .val (.int p1), .val (.ref b1), .val (.ref b7), .val (.ref b18), .val (.ref b21), .val (.int (p1 &&& (-2 : Int32))), .val (.ref b34), .val (.ref b43), .val (.ref b52), .val (.ref b61), .val (.int (1 : Int32)), .unset]) rfl k) ?_
    show Good p e below _ (T70.setTop (mkF m 117 #[.val (.int p0), .val (.int p1), .val (.ref b1), .val (.ref b7), .val (.ref b18), .val (.ref b21), .val (.int (p1 &&& (-2 : Int32))), .val (.ref b34), .val (.ref b43), .val (.ref b52), .val (.ref b61), .val (.int (1 : Int32)), .unset] []))
    refine Good.back (fun _ k => XS.iloadN X70.here hx rfl (hb hby at_117) rfl k) ?_
    show Good p e below _ (T70.setTop (mkF m 118 #[.val (.int p0), .val (.int p1), .val (.ref b1), .val (.ref b7), .val (.ref b18), .val (.ref b21), .val (.int (p1 &&& (-2 : Int32))), .val (.ref b34), .val (.ref b43), .val (.ref b52), .val (.ref b61), .val (.int (1 : Int32)), .unset] [(.int p0)]))
    refine Good.back (fun _ k => XS.iconst X70.here hx rfl (hb hby at_118) k) ?_
    show Good p e below _ (T70.setTop (mkF m 119 #[.val (.int p0), .val (.int p1), .val (.ref b1), .val (.ref b7), .val (.ref b18), .val (.ref b21), .val (.int (p1 &&& (-2 : Int32))), .val (.ref b34), .val (.ref b43), .val (.ref b52), .val (.ref b61), .val (.int (1 : Int32)), .unset] [(.int (2 : Int32)), (.int p0)]))
    refine Good.back (fun _ k => iremM (g := (mkF m 119 #[.val (.int p0), .val (.int p1), .val (.ref b1), .val (.ref b7), .val (.ref b18), .val (.ref b21), .val (.int (p1 &&& (-2 : Int32))), .val (.ref b34), .val (.ref b43), .val (.ref b52), .val (.ref b61), .val (.int (1 : Int32)), .unset] [(.int (2 : Int32)), (.int p0)])) X70 hx rfl (hb hby at_119) rfl (by decide) k) ?_
    show Good p e below _ (T70.setTop (mkF m 120 #[.val (.int p0), .val (.int p1), .val (.ref b1), .val (.ref b7), .val (.ref b18), .val (.ref b21), .val (.int (p1 &&& (-2 : Int32))), .val (.ref b34), .val (.ref b43), .val (.ref b52), .val (.ref b61), .val (.int (1 : Int32)), .unset] [(.int (p0 % (2 : Int32)))]))
    refine Good.back (fun _ k => XS.ifNo X70.here hx rfl (hb hby at_120) rfl ((if0 _ _).trans (feq (fun q => hb93 ((own_odd p0).mp q))).1) k) ?_
    show Good p e below _ (T70.setTop (mkF m 123 #[.val (.int p0), .val (.int p1), .val (.ref b1), .val (.ref b7), .val (.ref b18), .val (.ref b21), .val (.int (p1 &&& (-2 : Int32))), .val (.ref b34), .val (.ref b43), .val (.ref b52), .val (.ref b61), .val (.int (1 : Int32)), .unset] []))
    refine Good.back (fun _ k => XS.iconst X70.here hx rfl (hb hby at_123) k) ?_
    show Good p e below _ (T70.setTop (mkF m 124 #[.val (.int p0), .val (.int p1), .val (.ref b1), .val (.ref b7), .val (.ref b18), .val (.ref b21), .val (.int (p1 &&& (-2 : Int32))), .val (.ref b34), .val (.ref b43), .val (.ref b52), .val (.ref b61), .val (.int (1 : Int32)), .unset] [(.int (1 : Int32))]))
    refine Good.back (fun _ k => XS.goto X70.here hx rfl (pc0 := 124) (pc' := 128) rfl (hb hby at_124) (by decide) (by decide) k) ?_
    show Good p e below _ (T70.setTop (mkF m 128 #[.val (.int p0), .val (.int p1), .val (.ref b1), .val (.ref b7), .val (.ref b18), .val (.ref b21), .val (.int (p1 &&& (-2 : Int32))), .val (.ref b34), .val (.ref b43), .val (.ref b52), .val (.ref b61), .val (.int (1 : Int32)), .unset] [(.int (1 : Int32))]))
    refine Good.back (fun _ k => XS.istore X70.here hx rfl (hb hby at_128) rfl (l' := #[.val (.int p0), .val (.int p1), .val (.ref b1), .val (.ref b7), .val (.ref b18), .val (.ref b21), .val (.int (p1 &&& (-2 : Int32))), .val (.ref b34), .val (.ref b43), .val (.ref b52), .val (.ref b61), .val (.int (1 : Int32)), .val (.int (1 : Int32))]) rfl k) ?_
    show Good p e below _ (T70.setTop (mkF m 130 #[.val (.int p0), .val (.int p1), .val (.ref b1), .val (.ref b7), .val (.ref b18), .val (.ref b21), .val (.int (p1 &&& (-2 : Int32))), .val (.ref b34), .val (.ref b43), .val (.ref b52), .val (.ref b61), .val (.int (1 : Int32)), .val (.int (1 : Int32))] []))
    refine Good.back (fun _ k => XS.aload X70.here hx rfl (hb hby at_130) rfl rfl k) ?_
    show Good p e below _ (T70.setTop (mkF m 132 #[.val (.int p0), .val (.int p1), .val (.ref b1), .val (.ref b7), .val (.ref b18), .val (.ref b21), .val (.int (p1 &&& (-2 : Int32))), .val (.ref b34), .val (.ref b43), .val (.ref b52), .val (.ref b61), .val (.int (1 : Int32)), .val (.int (1 : Int32))] [(.ref b43)]))
    have f_119 : Fld Z h52 b43 "com/example/vartija/vartija/protocol/CreateRequest" "flags" "I" (.int (p0 ||| (1 : Int32))) := Fld.ext E52 o50_0
    have ne_b43_b52_121 : b43 ≠ b52 := Nat.ne_of_lt (Nat.lt_of_lt_of_le o50_0.lt (Nat.le_of_eq g52.symm))
    have f_120 : Fld Z T59.heap b43 "com/example/vartija/vartija/protocol/CreateRequest" "flags" "I" (.int (p0 ||| (1 : Int32))) := Fld.keep f_119 Kq59 (ninS ne_b43_b52_121 nin0)
    have f_122 : Fld Z h61 b43 "com/example/vartija/vartija/protocol/CreateRequest" "flags" "I" (.int (p0 ||| (1 : Int32))) := Fld.ext E61 f_120
    have f_124 : Fld Z h52 b43 "com/example/vartija/vartija/protocol/CreateRequest" "flags" "I" (.int (p0 ||| (1 : Int32))) := Fld.ext E52 o50_0
    have f_125 : Fld Z T59.heap b43 "com/example/vartija/vartija/protocol/CreateRequest" "flags" "I" (.int (p0 ||| (1 : Int32))) := Fld.keep f_124 Kq59 (ninS ne_b43_b52_121 nin0)
    have ne_b43_b61_126 : b43 ≠ b61 := Nat.ne_of_lt (Nat.lt_of_lt_of_le f_125.lt (Nat.le_of_eq g61.symm))
    have f_123 : Fld Z T68.heap b43 "com/example/vartija/vartija/protocol/CreateRequest" "flags" "I" (.int (p0 ||| (1 : Int32))) := Fld.keep f_122 Kq68 (ninS ne_b43_b61_126 nin0)
    have f_127 : Exa Z T50.heap b43 "com/example/vartija/vartija/protocol/CreateRequest" := Exa.keep f_45 Kq50
    have f_128 : Exa Z h52 b43 "com/example/vartija/vartija/protocol/CreateRequest" := Exa.ext E52 f_127
    have f_129 : Exa Z T59.heap b43 "com/example/vartija/vartija/protocol/CreateRequest" := Exa.keep f_128 Kq59
    have f_130 : Exa Z h61 b43 "com/example/vartija/vartija/protocol/CreateRequest" := Exa.ext E61 f_129
    have f_131 : Exa Z T68.heap b43 "com/example/vartija/vartija/protocol/CreateRequest" := Exa.keep f_130 Kq68
    obtain ⟨cq118, kq118, q118a, q118b, q118c⟩ := isOf hZ eh70 f_131
    obtain ⟨_, _, ⟨T118, L118, k118, n118⟩, -, X118, ⟨Lc118, hQ118, l118, y118, z118⟩, st118⟩ := X70.virtualBack hx (y := (⟨"com/example/vartija/vartija/protocol/CreateRequest", "ephemeral", "()Z"⟩ : MethodName)) (z := (⟨"com/example/vartija/vartija/protocol/CreateRequest", "ephemeral", "()Z"⟩ : MethodName)) hown (mvT hZ (hw _ (List.mem_of_getElem? (i := 74) rfl))) (mvT hZ (hw _ (List.mem_of_getElem? (i := 75) rfl))) (notFace_of_selects (args := #[]) (mvT hZ (hw _ (List.mem_of_getElem? (i := 77) rfl)))) (mvT hZ (hw _ (List.mem_of_getElem? (i := 77) rfl))) (mvT hZ (hw _ (List.mem_of_getElem? (i := 76) rfl))) (by decide) (backOf (W := 0) (rm12 l Z a0 hw [] b43 (p0 ||| (1 : Int32)) T68.heap n0 Z69 f_123) hZ (hw _ (List.mem_of_getElem? (i := 78) rfl)) (hw _ (List.mem_of_getElem? (i := 56) rfl)) (by decide) (by decide)) q118a q118c (g := (mkF m 132 #[.val (.int p0), .val (.int p1), .val (.ref b1), .val (.ref b7), .val (.ref b18), .val (.ref b21), .val (.int (p1 &&& (-2 : Int32))), .val (.ref b34), .val (.ref b43), .val (.ref b52), .val (.ref b61), .val (.int (1 : Int32)), .val (.int (1 : Int32))] [(.ref b43)])) rfl (by rw [hml]; rfl) (Steps.refl _) (argsL := []) (rest := []) (lenOf own_pd123 rfl) rfl (by show 2 * 0 + _ ≤ _; exact Nat.le_of_eq rfl) (hb hby at_132) (fun _ _ => ⟨rfl, eh70, (by decide : 9 + 0 ≤ _), (by decide : 25 + 0 ≤ _)⟩)
    dsimp only [Pt.U, Pt.locs, Pt.cells, Pt.slots] at X118 l118 y118 z118 st118 hQ118
    subst l118 y118 z118
    obtain ⟨rfl, N118q, eh118⟩ := hQ118
    have N118 := Fr.app N70 N118q
    refine Good.back (fun _ k => st118.trans k) ?_
    show Good p e below _ (T118.setTop (mkF m 135 #[.val (.int p0), .val (.int p1), .val (.ref b1), .val (.ref b7), .val (.ref b18), .val (.ref b21), .val (.int (p1 &&& (-2 : Int32))), .val (.ref b34), .val (.ref b43), .val (.ref b52), .val (.ref b61), .val (.int (1 : Int32)), .val (.int (1 : Int32))] [(.int (if ((p0 ||| (1 : Int32)) &&& 1) = 0 then (0 : Int32) else (1 : Int32)))]))
    rw [show ((if ((p0 ||| (1 : Int32)) &&& 1) = 0 then (0 : Int32) else (1 : Int32)) : Int32) = (1 : Int32) from if_neg (own_set p0)]
    show Good p e below _ (T118.setTop (mkF m 135 #[.val (.int p0), .val (.int p1), .val (.ref b1), .val (.ref b7), .val (.ref b18), .val (.ref b21), .val (.int (p1 &&& (-2 : Int32))), .val (.ref b34), .val (.ref b43), .val (.ref b52), .val (.ref b61), .val (.int (1 : Int32)), .val (.int (1 : Int32))] [(.int (1 : Int32))]))
    refine Good.back (fun _ k => XS.ifNo X118.here hx rfl (hb hby at_135) rfl ((if0 _ _).trans (feq (by decide : ¬ ((1 : Int32) = (0 : Int32)))).1) k) ?_
    show Good p e below _ (T118.setTop (mkF m 138 #[.val (.int p0), .val (.int p1), .val (.ref b1), .val (.ref b7), .val (.ref b18), .val (.ref b21), .val (.int (p1 &&& (-2 : Int32))), .val (.ref b34), .val (.ref b43), .val (.ref b52), .val (.ref b61), .val (.int (1 : Int32)), .val (.int (1 : Int32))] []))
    refine Good.back (fun _ k => XS.aload X118.here hx rfl (hb hby at_138) rfl rfl k) ?_
    show Good p e below _ (T118.setTop (mkF m 140 #[.val (.int p0), .val (.int p1), .val (.ref b1), .val (.ref b7), .val (.ref b18), .val (.ref b21), .val (.int (p1 &&& (-2 : Int32))), .val (.ref b34), .val (.ref b43), .val (.ref b52), .val (.ref b61), .val (.int (1 : Int32)), .val (.int (1 : Int32))] [(.ref b52)]))
    have f_133 : Fld Z h61 b52 "com/example/vartija/vartija/protocol/CreateRequest" "flags" "I" (.int (p0 &&& (-2 : Int32))) := Fld.ext E61 o59_0
    have ne_b52_b61_135 : b52 ≠ b61 := Nat.ne_of_lt (Nat.lt_of_lt_of_le o59_0.lt (Nat.le_of_eq g61.symm))
    have f_134 : Fld Z T68.heap b52 "com/example/vartija/vartija/protocol/CreateRequest" "flags" "I" (.int (p0 &&& (-2 : Int32))) := Fld.keep f_133 Kq68 (ninS ne_b52_b61_135 nin0)
    have f_136 : Exa Z T59.heap b52 "com/example/vartija/vartija/protocol/CreateRequest" := Exa.keep f_54 Kq59
    have f_137 : Exa Z h61 b52 "com/example/vartija/vartija/protocol/CreateRequest" := Exa.ext E61 f_136
    have f_138 : Exa Z T68.heap b52 "com/example/vartija/vartija/protocol/CreateRequest" := Exa.keep f_137 Kq68
    obtain ⟨cq132, kq132, q132a, q132b, q132c⟩ := isOf hZ eh118 f_138
    obtain ⟨_, _, ⟨T132, L132, k132, n132⟩, -, X132, ⟨Lc132, hQ132, l132, y132, z132⟩, st132⟩ := X118.virtualBack hx (y := (⟨"com/example/vartija/vartija/protocol/CreateRequest", "ephemeral", "()Z"⟩ : MethodName)) (z := (⟨"com/example/vartija/vartija/protocol/CreateRequest", "ephemeral", "()Z"⟩ : MethodName)) hown (mvT hZ (hw _ (List.mem_of_getElem? (i := 74) rfl))) (mvT hZ (hw _ (List.mem_of_getElem? (i := 75) rfl))) (notFace_of_selects (args := #[]) (mvT hZ (hw _ (List.mem_of_getElem? (i := 77) rfl)))) (mvT hZ (hw _ (List.mem_of_getElem? (i := 77) rfl))) (mvT hZ (hw _ (List.mem_of_getElem? (i := 76) rfl))) (by decide) (backOf (W := 0) (rm12 l Z a0 hw [] b52 (p0 &&& (-2 : Int32)) T68.heap n0 Z69 f_134) hZ (hw _ (List.mem_of_getElem? (i := 78) rfl)) (hw _ (List.mem_of_getElem? (i := 56) rfl)) (by decide) (by decide)) q132a q132c (g := (mkF m 140 #[.val (.int p0), .val (.int p1), .val (.ref b1), .val (.ref b7), .val (.ref b18), .val (.ref b21), .val (.int (p1 &&& (-2 : Int32))), .val (.ref b34), .val (.ref b43), .val (.ref b52), .val (.ref b61), .val (.int (1 : Int32)), .val (.int (1 : Int32))] [(.ref b52)])) rfl (by rw [hml]; rfl) (Steps.refl _) (argsL := []) (rest := []) (lenOf own_pd123 rfl) rfl (by show 2 * 0 + _ ≤ _; exact Nat.le_of_eq rfl) (hb hby at_140) (fun _ _ => ⟨rfl, eh118, (by decide : 9 + 0 ≤ _), (by decide : 25 + 0 ≤ _)⟩)
    dsimp only [Pt.U, Pt.locs, Pt.cells, Pt.slots] at X132 l132 y132 z132 st132 hQ132
    subst l132 y132 z132
    obtain ⟨rfl, N132q, eh132⟩ := hQ132
    have N132 := Fr.app N118 N132q
    refine Good.back (fun _ k => st132.trans k) ?_
    show Good p e below _ (T132.setTop (mkF m 143 #[.val (.int p0), .val (.int p1), .val (.ref b1), .val (.ref b7), .val (.ref b18), .val (.ref b21), .val (.int (p1 &&& (-2 : Int32))), .val (.ref b34), .val (.ref b43), .val (.ref b52), .val (.ref b61), .val (.int (1 : Int32)), .val (.int (1 : Int32))] [(.int (if ((p0 &&& (-2 : Int32)) &&& 1) = 0 then (0 : Int32) else (1 : Int32)))]))
    rw [show ((if ((p0 &&& (-2 : Int32)) &&& 1) = 0 then (0 : Int32) else (1 : Int32)) : Int32) = (0 : Int32) from if_pos (own_clear p0)]
    show Good p e below _ (T132.setTop (mkF m 143 #[.val (.int p0), .val (.int p1), .val (.ref b1), .val (.ref b7), .val (.ref b18), .val (.ref b21), .val (.int (p1 &&& (-2 : Int32))), .val (.ref b34), .val (.ref b43), .val (.ref b52), .val (.ref b61), .val (.int (1 : Int32)), .val (.int (1 : Int32))] [(.int (0 : Int32))]))
    refine Good.back (fun _ k => XS.ifNo X132.here hx rfl (hb hby at_143) rfl ((if0 _ _).trans (teq (by decide : ((0 : Int32) = (0 : Int32)))).2) k) ?_
    show Good p e below _ (T132.setTop (mkF m 146 #[.val (.int p0), .val (.int p1), .val (.ref b1), .val (.ref b7), .val (.ref b18), .val (.ref b21), .val (.int (p1 &&& (-2 : Int32))), .val (.ref b34), .val (.ref b43), .val (.ref b52), .val (.ref b61), .val (.int (1 : Int32)), .val (.int (1 : Int32))] []))
    refine Good.back (fun _ k => XS.iload X132.here hx rfl (hb hby at_146) rfl k) ?_
    show Good p e below _ (T132.setTop (mkF m 148 #[.val (.int p0), .val (.int p1), .val (.ref b1), .val (.ref b7), .val (.ref b18), .val (.ref b21), .val (.int (p1 &&& (-2 : Int32))), .val (.ref b34), .val (.ref b43), .val (.ref b52), .val (.ref b61), .val (.int (1 : Int32)), .val (.int (1 : Int32))] [(.int (1 : Int32))]))
    refine Good.back (fun _ k => XS.iload X132.here hx rfl (hb hby at_148) rfl k) ?_
    show Good p e below _ (T132.setTop (mkF m 150 #[.val (.int p0), .val (.int p1), .val (.ref b1), .val (.ref b7), .val (.ref b18), .val (.ref b21), .val (.int (p1 &&& (-2 : Int32))), .val (.ref b34), .val (.ref b43), .val (.ref b52), .val (.ref b61), .val (.int (1 : Int32)), .val (.int (1 : Int32))] [(.int (1 : Int32)), (.int (1 : Int32))]))
    refine Good.back (fun _ k => XS.icmpNo X132.here hx rfl (hb hby at_150) rfl (teq (by decide : ((1 : Int32) = (1 : Int32)))).2 k) ?_
    show Good p e below _ (T132.setTop (mkF m 153 #[.val (.int p0), .val (.int p1), .val (.ref b1), .val (.ref b7), .val (.ref b18), .val (.ref b21), .val (.int (p1 &&& (-2 : Int32))), .val (.ref b34), .val (.ref b43), .val (.ref b52), .val (.ref b61), .val (.int (1 : Int32)), .val (.int (1 : Int32))] []))
    refine Good.back (fun _ k => XS.aload X132.here hx rfl (hb hby at_153) rfl rfl k) ?_
    show Good p e below _ (T132.setTop (mkF m 155 #[.val (.int p0), .val (.int p1), .val (.ref b1), .val (.ref b7), .val (.ref b18), .val (.ref b21), .val (.int (p1 &&& (-2 : Int32))), .val (.ref b34), .val (.ref b43), .val (.ref b52), .val (.ref b61), .val (.int (1 : Int32)), .val (.int (1 : Int32))] [(.ref b61)]))
    have f_140 : Exa Z T68.heap b61 "com/example/vartija/vartija/protocol/CreateRequest" := Exa.keep f_63 Kq68
    obtain ⟨cq139, kq139, q139a, q139b, q139c⟩ := isOf hZ eh132 f_140
    obtain ⟨_, _, ⟨T139, L139, k139, n139⟩, -, X139, ⟨Lc139, hQ139, l139, y139, z139⟩, st139⟩ := X132.virtualBack hx (y := (⟨"com/example/vartija/vartija/protocol/CreateRequest", "ephemeral", "()Z"⟩ : MethodName)) (z := (⟨"com/example/vartija/vartija/protocol/CreateRequest", "ephemeral", "()Z"⟩ : MethodName)) hown (mvT hZ (hw _ (List.mem_of_getElem? (i := 74) rfl))) (mvT hZ (hw _ (List.mem_of_getElem? (i := 75) rfl))) (notFace_of_selects (args := #[]) (mvT hZ (hw _ (List.mem_of_getElem? (i := 77) rfl)))) (mvT hZ (hw _ (List.mem_of_getElem? (i := 77) rfl))) (mvT hZ (hw _ (List.mem_of_getElem? (i := 76) rfl))) (by decide) (backOf (W := 0) (rm12 l Z a0 hw [] b61 (p0 ^^^ (p1 &&& (-2 : Int32))) T68.heap n0 Z69 o68_0) hZ (hw _ (List.mem_of_getElem? (i := 78) rfl)) (hw _ (List.mem_of_getElem? (i := 56) rfl)) (by decide) (by decide)) q139a q139c (g := (mkF m 155 #[.val (.int p0), .val (.int p1), .val (.ref b1), .val (.ref b7), .val (.ref b18), .val (.ref b21), .val (.int (p1 &&& (-2 : Int32))), .val (.ref b34), .val (.ref b43), .val (.ref b52), .val (.ref b61), .val (.int (1 : Int32)), .val (.int (1 : Int32))] [(.ref b61)])) rfl (by rw [hml]; rfl) (Steps.refl _) (argsL := []) (rest := []) (lenOf own_pd123 rfl) rfl (by show 2 * 0 + _ ≤ _; exact Nat.le_of_eq rfl) (hb hby at_155) (fun _ _ => ⟨rfl, eh132, (by decide : 9 + 0 ≤ _), (by decide : 25 + 0 ≤ _)⟩)
    dsimp only [Pt.U, Pt.locs, Pt.cells, Pt.slots] at X139 l139 y139 z139 st139 hQ139
    subst l139 y139 z139
    obtain ⟨rfl, N139q, eh139⟩ := hQ139
    have N139 := Fr.app N132 N139q
    refine Good.back (fun _ k => st139.trans k) ?_
    show Good p e below _ (T139.setTop (mkF m 158 #[.val (.int p0), .val (.int p1), .val (.ref b1), .val (.ref b7), .val (.ref b18), .val (.ref b21), .val (.int (p1 &&& (-2 : Int32))), .val (.ref b34), .val (.ref b43), .val (.ref b52), .val (.ref b61), .val (.int (1 : Int32)), .val (.int (1 : Int32))] [(.int (if ((p0 ^^^ (p1 &&& (-2 : Int32))) &&& 1) = 0 then (0 : Int32) else (1 : Int32)))]))
    rw [show ((if ((p0 ^^^ (p1 &&& (-2 : Int32))) &&& 1) = 0 then (0 : Int32) else (1 : Int32)) : Int32) = (1 : Int32) from if_neg (fun q => hb93 ((own_flip p0 p1).mp q))]
    show Good p e below _ (T139.setTop (mkF m 158 #[.val (.int p0), .val (.int p1), .val (.ref b1), .val (.ref b7), .val (.ref b18), .val (.ref b21), .val (.int (p1 &&& (-2 : Int32))), .val (.ref b34), .val (.ref b43), .val (.ref b52), .val (.ref b61), .val (.int (1 : Int32)), .val (.int (1 : Int32))] [(.int (1 : Int32))]))
    refine Good.back (fun _ k => XS.iload X139.here hx rfl (hb hby at_158) rfl k) ?_
    show Good p e below _ (T139.setTop (mkF m 160 #[.val (.int p0), .val (.int p1), .val (.ref b1), .val (.ref b7), .val (.ref b18), .val (.ref b21), .val (.int (p1 &&& (-2 : Int32))), .val (.ref b34), .val (.ref b43), .val (.ref b52), .val (.ref b61), .val (.int (1 : Int32)), .val (.int (1 : Int32))] [(.int (1 : Int32)), (.int (1 : Int32))]))
    refine Good.back (fun _ k => XS.icmpNo X139.here hx rfl (hb hby at_160) rfl (teq (by decide : ((1 : Int32) = (1 : Int32)))).2 k) ?_
    show Good p e below _ (T139.setTop (mkF m 163 #[.val (.int p0), .val (.int p1), .val (.ref b1), .val (.ref b7), .val (.ref b18), .val (.ref b21), .val (.int (p1 &&& (-2 : Int32))), .val (.ref b34), .val (.ref b43), .val (.ref b52), .val (.ref b61), .val (.int (1 : Int32)), .val (.int (1 : Int32))] []))
    refine Good.back (fun _ k => XS.iconst X139.here hx rfl (hb hby at_163) k) ?_
    show Good p e below _ (T139.setTop (mkF m 164 #[.val (.int p0), .val (.int p1), .val (.ref b1), .val (.ref b7), .val (.ref b18), .val (.ref b21), .val (.int (p1 &&& (-2 : Int32))), .val (.ref b34), .val (.ref b43), .val (.ref b52), .val (.ref b61), .val (.int (1 : Int32)), .val (.int (1 : Int32))] [(.int (1 : Int32))]))
    refine Good.back (fun _ k => XS.goto X139.here hx rfl (pc0 := 164) (pc' := 168) rfl (hb hby at_164) (by decide) (by decide) k) ?_
    show Good p e below _ (T139.setTop (mkF m 168 #[.val (.int p0), .val (.int p1), .val (.ref b1), .val (.ref b7), .val (.ref b18), .val (.ref b21), .val (.int (p1 &&& (-2 : Int32))), .val (.ref b34), .val (.ref b43), .val (.ref b52), .val (.ref b61), .val (.int (1 : Int32)), .val (.int (1 : Int32))] [(.int (1 : Int32))]))
    obtain ⟨fs141, hr141, hrun141, hended141, hW141, hsame141⟩ := X139.leave (v := some (.int (1 : Int32))) (fun h => by rw [Bd.returns] at h; cases h)
    refine Good.done (retN X139 hx (t := .boolean) Bd.returns (by simp) (hb hby at_168) hr141) hrun141 hended141 ⟨_, _, rfl, ?_, ⟨_, rfl⟩, hW141, hsame141.mono (by decide) (by decide)⟩
    show Q0 Z p0 p1 cs de h0 n0 _ T139.heap _
    rw [eh139]
    exact ⟨rfl, N139⟩
set_option maxRecDepth 65536 in
set_option maxHeartbeats 40000000 in
theorem comes_1 {Post : Tables → Env → Array Value → State → Outcome → State → Prop} (hpost : ∀ tb e args s v u, (limb_1_1.after args s (.returned v) u = true ∧ limb_1_2.after args s (.returned v) u = true ∧ True) → FrameEnd s (.returned v) u (Jvm.fieldLocs frame_1_writes args s ++ Jvm.arrayLocs frame_1_arrays args s ++ Jvm.staticLocs frame_1_statics s) 32 128 → Post tb e args s (.returned v) u) :
    ArmFor flags0 classFile x code maxLocals ret World_1 tables_1 room_1 Calls_1 rest_1 Pre_1 Post := by
  intro l hfl _ _ p e ha hc hk s m args below hf hA hF happ hP
  obtain ⟨hcalls, hrest, hpre⟩ := hP
  obtain ⟨-, -, -, hnamed, -, -, -, hat⟩ := (Spec.applies_iff hf).mp happ
  obtain ⟨hg, hn⟩ := and_e (Cond.before_iff.mp (show (Jvm.Cond.and given_1 narrow_1).before args s = true from hpre))
  obtain ⟨g1, g2⟩ := and_e hg
  obtain ⟨g3, g4⟩ := and_e g2
  obtain ⟨w0, w1, rfl⟩ : ∃ w0 w1 : Value, args = #[w0, w1] := by
    have hs : args.size = 2 := by simpa [Cond.value, given_1] using g1
    obtain ⟨L⟩ := args
    match L, hs with
    | [w0, w1], _ => exact ⟨w0, w1, rfl⟩
  have hw := fun d (hd : d ∈ tables_1) => atoms_spec (ws := Jvm.Cond.code x code maxLocals ret :: tables_1) hat d (List.mem_cons_of_mem _ hd)
  have hfit : Fit s := fun {y c} hc i hi => by
    obtain ⟨ha, rfl⟩ := Array.getElem?_eq_some_iff.mp hc
    have q := List.all_eq_true.mp ((Array.all_eq_true_iff_forall_mem.mp hF) _ (Array.getElem_mem ha)) i (List.mem_range.mpr hi)
    simpa [Array.getElem?_eq_getElem hi] using q
  obtain ⟨hsets, hown0⟩ := atoms_of _ (rest_1_c_eq ▸ (show rest_1_c.before _ s = true from hrest))
  have hr0 := Cond.before_iff.mp hown0
  obtain ⟨i0, ei0⟩ := is_v g3
  obtain rfl : w0 = (.int i0) := Option.some.inj ei0
  obtain ⟨i1, ei1⟩ := is_v g4
  obtain rfl : w1 = (.int i1) := Option.some.inj ei1
  have qcs1 := Cond.before_iff.mp (hsets _ (List.mem_of_getElem? (i := 1) rfl))
  obtain ⟨cs, ecs⟩ := is_v qcs1
  have qcs2 := not_v (Cond.before_iff.mp (hsets _ (List.mem_of_getElem? (i := 2) rfl)))
  have hcs : ¬ (cs = (0 : Int32)) := own_neI qcs2 ecs
  have S_cs : Sta s s.heap "java/lang/String" "COMPACT_STRINGS" "Z" (.int cs) := Sta.start ecs (Or.inl (hsets _ (List.mem_of_getElem? (i := 0) rfl)))
  obtain ⟨de, ede⟩ := exa_v (Cond.before_iff.mp (hsets _ (List.mem_of_getElem? (i := 16) rfl)))
  have S_de : Sta s s.heap "java/util/ArrayList" "DEFAULTCAPACITY_EMPTY_ELEMENTDATA" "[Ljava/lang/Object;" (.ref de) := Sta.start ede (Or.inr ⟨hw _ (List.mem_of_getElem? (i := 32) rfl), hsets _ (List.mem_of_getElem? (i := 11) rfl)⟩)
  obtain ⟨n, o, h1, h2, h3, _, L, rfl, ⟨rfl, N⟩, hq⟩ := rm0 l s _ hw tables_1 i0 i1 cs de s.heap s.heap.size (Nat.le_refl _) S_cs hcs S_de p e ha hc hk s m _ below hf ((Spec.applies_iff_loose hf).mp happ).1 ⟨rfl, State.Warmed39.refl s, rfl⟩ trivial
  refine ⟨n, _, h1, h2, h3, hpost _ _ _ _ _ _ ⟨Cond.after_iff.mpr rfl, Cond.after_iff.mpr (eq_i res_at (Term.int_eval (1)) rfl), trivial⟩ ⟨hq.1, hq.2.1, (hq.2.2.sift fun y hy => Or.inr (N y hy)).mono (by decide) (by decide)⟩⟩
theorem main_1_1 : Claimed_1_1 := comes_1 fun _ _ _ _ _ _ h hF => ⟨h.1, hF⟩
theorem main_1_2 : Claimed_1_2 := comes_1 fun _ _ _ _ _ _ h hF => ⟨h.2.1, hF⟩
end Jvm.Pilot.@@N@@
namespace Jvm.Pilot.@@N@@
open Jvm Jvm.ClassFile Sem Op Lib Jvm.Free Jvm.Stand Jvm.Pilot.@@N@@.Jvm.D
/-! MADE BY PROGRAM (witnessworld.py) out of the Statement's table words and the real class files: 30 classes; the members and pool entries that the words name. The judged class is class 1, her method 1. -/
namespace start1
open Jvm.ClassFile
def u (s : String) : CpInfo := .utf8 (stringToUtf16 s)
/-- a pool by its gaps: so many unusable entries, then the entry; so many at the end -/
def gap : Nat → List CpInfo → List CpInfo
  | 0, r => r
  | n + 1, r => .unusable :: gap n r
def poolList (es : List (Nat × CpInfo)) (last : Nat) : List CpInfo := es.foldr (fun e r => gap e.1 (e.2 :: r)) (gap last [])
def pool (es : List (Nat × CpInfo)) (last : Nat) : Array CpInfo := ⟨poolList es last⟩
def fileOf (pool : Array CpInfo) (this : Nat) (attrs : Array Attribute := #[]) (ms : Array MethodInfo := #[]) (fl : Nat := 33) (sup : Nat := 0) (ifs : Array Nat := #[]) (fds : Array FieldInfo := #[]) : ClassFile where
  minorVersion := 0
  majorVersion := 65
  constantPool := pool
  accessFlags := fl
  thisClass := this
  superClass := sup
  interfaces := ifs
  fields := fds
  methods := ms
  attributes := attrs
def plain (name : String) (sup : Option ClassId) : Class where
  name := name
  kind := .ordinary
  loader := none
  accessFlags := 33
  super := sup
  interfaces := #[]
  cf := none
  fields := #[]
  methods := #[]
  instanceTypes := #[]
  staticTypes := #[]
  resolved := #[]
  callSites := []
  init := .initialized
  statics := none
  mirror := none

def pool0 : Array CpInfo := pool [(5, u "<init>"), (0, u "()V"), (1, .class_ 10), (1, u "java/lang/Object")] 113

def k0c0 : Code := { maxStack := 0, maxLocals := 1, code := object_method_1_code, exceptionTable := #[], attributes := #[] }
def k0m0 : Method := { name := "<init>", desc := "()V", sig := { parameters := [], returnType := none }, accessFlags := 1, code := some k0c0 }
/-- java/lang/Object -/
def k0 : Class := { plain "java/lang/Object" none with
  accessFlags := 33
  interfaces := #[]
  cf := some (fileOf pool0 8 #[] #[{ accessFlags := 1, nameIndex := 5, descriptorIndex := 6, attributes := #[] }] 33 0 #[] #[])
  fields := #[]
  methods := #[k0m0]
  instanceTypes := #[]
  staticTypes := #[]
  resolved := Array.replicate 124 none
  statics := none }

def pool1 : Array CpInfo := pool [(2, .class_ 4), (0, .nameAndType 5 6), (0, u "java/lang/Object"), (0, u "<init>"), (0, u "()V"), (0, .class_ 8), (0, u "java/lang/String"), (0, .methodref 7 10), (0, .nameAndType 5 11), (0, u "([C)V"), (0, .class_ 13), (0, u "java/util/ArrayList"), (0, .methodref 12 3), (0, .class_ 16), (0, u "com/example/vartija/vartija/protocol/CreateRequest"), (0, .methodref 15 18), (0, .nameAndType 5 19), (0, u "(Ljava/lang/String;[BLjava/util/List;I)V"), (0, .methodref 15 21), (0, .nameAndType 22 23), (0, u "ephemeral"), (0, u "()Z"), (0, .class_ 25), (0, u "com/example/vartija/vartija/protocol/CreateRequestEphemeralPinLaw"), (2, u "law"), (0, u "(II)Z")] 9

def k1m0 : Method := { name := "<init>", desc := "()V", sig := { parameters := [], returnType := none }, accessFlags := 1, code := none }
def k1c1 : Code := { maxStack := 7, maxLocals := 13, code := code, exceptionTable := #[], attributes := #[] }
def k1m1 : Method := { name := "law", desc := "(II)Z", sig := { parameters := [.int, .int], returnType := some .boolean }, accessFlags := 9, code := some k1c1 }
/-- com/example/vartija/vartija/protocol/CreateRequestEphemeralPinLaw -/
def k1 : Class := { plain "com/example/vartija/vartija/protocol/CreateRequestEphemeralPinLaw" (some 0) with
  accessFlags := 49
  interfaces := #[]
  cf := some (fileOf pool1 24 #[] #[{ accessFlags := 1, nameIndex := 5, descriptorIndex := 6, attributes := #[] }, { accessFlags := 9, nameIndex := 28, descriptorIndex := 29, attributes := #[] }] 49 2 #[] #[])
  fields := #[]
  methods := #[k1m0, k1m1]
  instanceTypes := #[]
  staticTypes := #[]
  resolved := Array.replicate 39 none
  statics := none }

def pool2 : Array CpInfo := pool [(1, .class_ 2), (0, u "java/io/Serializable"), (0, .class_ 4), (0, u "java/lang/Object")] 2

/-- java/io/Serializable -/
def k2 : Class := { plain "java/io/Serializable" (some 0) with
  accessFlags := 1537
  interfaces := #[]
  cf := some (fileOf pool2 1 #[] #[] 1537 3 #[] #[])
  fields := #[]
  methods := #[]
  instanceTypes := #[]
  staticTypes := #[]
  resolved := Array.replicate 7 none
  statics := none }

def pool3 : Array CpInfo := pool [(1, .class_ 2), (0, u "java/lang/Comparable"), (0, .class_ 4), (0, u "java/lang/Object")] 7

/-- java/lang/Comparable -/
def k3 : Class := { plain "java/lang/Comparable" (some 0) with
  accessFlags := 1537
  interfaces := #[]
  cf := some (fileOf pool3 1 #[] #[] 1537 3 #[] #[])
  fields := #[]
  methods := #[]
  instanceTypes := #[]
  staticTypes := #[]
  resolved := Array.replicate 12 none
  statics := none }

def pool4 : Array CpInfo := pool [(2, .class_ 4), (1, u "java/lang/CharSequence"), (42, .class_ 48), (0, u "java/lang/CharSequence$1CodePointIterator"), (10, .class_ 60), (0, u "java/lang/CharSequence$1CharIterator"), (5, .class_ 67), (0, u "java/lang/Object")] 63

/-- java/lang/CharSequence -/
def k4 : Class := { plain "java/lang/CharSequence" (some 0) with
  accessFlags := 1537
  interfaces := #[]
  cf := some (fileOf pool4 2 #[.nestMembers #[47, 59]] #[] 1537 66 #[] #[])
  fields := #[]
  methods := #[]
  instanceTypes := #[]
  staticTypes := #[]
  resolved := Array.replicate 131 none
  statics := none }

def pool5 : Array CpInfo := pool [(1, .class_ 2), (0, u "java/lang/constant/Constable"), (0, .class_ 4), (0, u "java/lang/Object")] 6

/-- java/lang/constant/Constable -/
def k5 : Class := { plain "java/lang/constant/Constable" (some 0) with
  accessFlags := 1537
  interfaces := #[]
  cf := some (fileOf pool5 1 #[] #[] 1537 3 #[] #[])
  fields := #[]
  methods := #[]
  instanceTypes := #[]
  staticTypes := #[]
  resolved := Array.replicate 11 none
  statics := none }

def pool6 : Array CpInfo := pool [(1, .class_ 2), (0, u "java/lang/constant/ConstantDesc"), (0, .class_ 4), (0, u "java/lang/Object")] 32

/-- java/lang/constant/ConstantDesc -/
def k6 : Class := { plain "java/lang/constant/ConstantDesc" (some 0) with
  accessFlags := 1537
  interfaces := #[]
  cf := some (fileOf pool6 1 #[] #[] 1537 3 #[] #[])
  fields := #[]
  methods := #[]
  instanceTypes := #[]
  staticTypes := #[]
  resolved := Array.replicate 37 none
  statics := none }

def pool7 : Array CpInfo := pool [(1, .methodref 2 3), (0, .class_ 4), (0, .nameAndType 5 6), (0, u "java/lang/Object"), (0, u "<init>"), (0, u "()V"), (2, .fieldref 10 11), (0, .class_ 12), (0, .nameAndType 13 14), (0, u "java/lang/String"), (0, u "value"), (0, u "[B"), (0, .fieldref 10 16), (0, .nameAndType 17 18), (0, u "coder"), (0, u "B"), (2, u "hash"), (0, u "I"), (2, u "hashIsZero"), (0, u "Z"), (0, .methodref 10 28), (0, .nameAndType 5 29), (0, u "([CIILjava/lang/Void;)V"), (8, .fieldref 10 39), (0, .nameAndType 40 26), (0, u "COMPACT_STRINGS"), (1, .class_ 44), (1, u "java/lang/StringUTF16"), (0, u "compress"), (1, .methodref 42 48), (0, .nameAndType 49 50), (0, u "coderFromArrayLen"), (0, u "([BI)B"), (126, .methodref 42 178), (0, .nameAndType 45 179), (0, u "([CII)[B"), (395, .class_ 576), (0, u "java/lang/CharSequence"), (22, u "CASE_INSENSITIVE_ORDER"), (0, u "Ljava/util/Comparator;"), (409, u "([C)V"), (90, u "serialPersistentFields"), (0, u "[Ljava/io/ObjectStreamField;"), (0, .class_ 1104), (0, u "java/lang/String$CaseInsensitiveComparator"), (1, .class_ 1107), (0, u "java/io/Serializable"), (0, .class_ 1109), (0, u "java/lang/Comparable"), (0, .class_ 1111), (0, u "java/lang/constant/Constable"), (0, .class_ 1113), (0, u "java/lang/constant/ConstantDesc"), (2, u "serialVersionUID"), (0, u "J"), (3, u "REPL"), (0, u "C"), (2, u "LATIN1"), (1, u "UTF16")] 323

def k7m0 : Method := { name := "<init>", desc := "()V", sig := { parameters := [], returnType := none }, accessFlags := 1, code := none }
def k7c1 : Code := { maxStack := 5, maxLocals := 2, code := jdk_42_method_3_code, exceptionTable := #[], attributes := #[] }
def k7m1 : Method := { name := "<init>", desc := "([C)V", sig := { parameters := [(.array .char)], returnType := none }, accessFlags := 1, code := some k7c1 }
def k7c2 : Code := { maxStack := 4, maxLocals := 6, code := jdk_42_method_149_code, exceptionTable := #[], attributes := #[] }
def k7m2 : Method := { name := "<init>", desc := "([CIILjava/lang/Void;)V", sig := { parameters := [(.array .char), .int, .int, (.object "java/lang/Void")], returnType := none }, accessFlags := 2, code := some k7c2 }
/-- java/lang/String -/
def k7 : Class := { plain "java/lang/String" (some 0) with
  accessFlags := 49
  interfaces := #[2, 3, 4, 5, 6]
  cf := some (fileOf pool7 10 #[.nestMembers #[1103]] #[{ accessFlags := 1, nameIndex := 5, descriptorIndex := 6, attributes := #[] }, { accessFlags := 1, nameIndex := 5, descriptorIndex := 1010, attributes := #[] }, { accessFlags := 2, nameIndex := 5, descriptorIndex := 29, attributes := #[] }] 49 2 #[1106, 1108, 575, 1110, 1112] #[{ accessFlags := 18, nameIndex := 13, descriptorIndex := 14, attributes := #[] }, { accessFlags := 18, nameIndex := 17, descriptorIndex := 18, attributes := #[] }, { accessFlags := 2, nameIndex := 21, descriptorIndex := 22, attributes := #[] }, { accessFlags := 2, nameIndex := 25, descriptorIndex := 26, attributes := #[] }, { accessFlags := 26, nameIndex := 1116, descriptorIndex := 1117, attributes := #[] }, { accessFlags := 24, nameIndex := 40, descriptorIndex := 26, attributes := #[] }, { accessFlags := 26, nameIndex := 1101, descriptorIndex := 1102, attributes := #[] }, { accessFlags := 26, nameIndex := 1121, descriptorIndex := 1122, attributes := #[] }, { accessFlags := 25, nameIndex := 599, descriptorIndex := 600, attributes := #[] }, { accessFlags := 24, nameIndex := 1125, descriptorIndex := 18, attributes := #[] }, { accessFlags := 24, nameIndex := 1127, descriptorIndex := 18, attributes := #[] }])
  fields := #[{ name := "value", type := (.array .byte), accessFlags := 18, slot := 0, constantValue := 0 }, { name := "coder", type := .byte, accessFlags := 18, slot := 1, constantValue := 0 }, { name := "hash", type := .int, accessFlags := 2, slot := 2, constantValue := 0 }, { name := "hashIsZero", type := .boolean, accessFlags := 2, slot := 3, constantValue := 0 }, { name := "serialVersionUID", type := .long, accessFlags := 26, slot := 0, constantValue := 0 }, { name := "COMPACT_STRINGS", type := .boolean, accessFlags := 24, slot := 1, constantValue := 0 }, { name := "serialPersistentFields", type := (.array (.object "java/io/ObjectStreamField")), accessFlags := 26, slot := 2, constantValue := 0 }, { name := "REPL", type := .char, accessFlags := 26, slot := 3, constantValue := 0 }, { name := "CASE_INSENSITIVE_ORDER", type := (.object "java/util/Comparator"), accessFlags := 25, slot := 4, constantValue := 0 }, { name := "LATIN1", type := .byte, accessFlags := 24, slot := 5, constantValue := 0 }, { name := "UTF16", type := .byte, accessFlags := 24, slot := 6, constantValue := 0 }]
  methods := #[k7m0, k7m1, k7m2]
  instanceTypes := #[(.array .byte), .byte, .int, .boolean]
  staticTypes := #[.long, .boolean, (.array (.object "java/io/ObjectStreamField")), .char, (.object "java/util/Comparator"), .byte, .byte]
  resolved := Array.replicate 1451 none
  statics := some 0 }

def pool8 : Array CpInfo := pool [(6, .class_ 8), (1, u "java/lang/Object"), (0, u "<init>"), (0, u "()V"), (1, .class_ 14), (1, u "java/lang/StringUTF16"), (31, u "$assertionsDisabled"), (0, u "Z"), (13, u "HI_BYTE_SHIFT"), (0, u "I"), (2, u "LO_BYTE_SHIFT"), (49, .methodref 12 116), (0, .nameAndType 117 118), (0, u "compress"), (0, u "([CI[BII)I"), (3, u "([CII)[B"), (138, u "coderFromArrayLen"), (0, u "([BI)B"), (106, .class_ 371), (1, u "java/lang/StringUTF16$LinesSpliterator"), (58, u "MAX_LENGTH"), (196, .class_ 628), (0, u "java/lang/StringUTF16$CodePointsSpliterator"), (0, .class_ 630), (0, u "java/lang/StringUTF16$CharsSpliterator")] 4

def k8m0 : Method := { name := "<init>", desc := "()V", sig := { parameters := [], returnType := none }, accessFlags := 0, code := none }
def k8c1 : Code := { maxStack := 2, maxLocals := 2, code := jdk_52_method_15_code, exceptionTable := #[], attributes := #[] }
def k8m1 : Method := { name := "coderFromArrayLen", desc := "([BI)B", sig := { parameters := [(.array .byte), .int], returnType := some .byte }, accessFlags := 8, code := some k8c1 }
def k8c2 : Code := { maxStack := 5, maxLocals := 6, code := jdk_52_method_16_code, exceptionTable := #[], attributes := #[] }
def k8m2 : Method := { name := "compress", desc := "([CII)[B", sig := { parameters := [(.array .char), .int, .int], returnType := some (.array .byte) }, accessFlags := 9, code := some k8c2 }
def k8c3 : Code := { maxStack := 3, maxLocals := 7, code := jdk_52_method_21_code, exceptionTable := #[], attributes := #[] }
def k8m3 : Method := { name := "compress", desc := "([CI[BII)I", sig := { parameters := [(.array .char), .int, (.array .byte), .int, .int], returnType := some .int }, accessFlags := 9, code := some k8c3 }
/-- java/lang/StringUTF16 -/
def k8 : Class := { plain "java/lang/StringUTF16" (some 0) with
  accessFlags := 48
  interfaces := #[]
  cf := some (fileOf pool8 12 #[.nestMembers #[627, 629, 369]] #[{ accessFlags := 0, nameIndex := 9, descriptorIndex := 10, attributes := #[] }, { accessFlags := 8, nameIndex := 261, descriptorIndex := 262, attributes := #[] }, { accessFlags := 9, nameIndex := 117, descriptorIndex := 122, attributes := #[] }, { accessFlags := 9, nameIndex := 117, descriptorIndex := 118, attributes := #[] }] 48 6 #[] #[{ accessFlags := 26, nameIndex := 61, descriptorIndex := 62, attributes := #[] }, { accessFlags := 26, nameIndex := 65, descriptorIndex := 62, attributes := #[] }, { accessFlags := 24, nameIndex := 430, descriptorIndex := 62, attributes := #[] }, { accessFlags := 4120, nameIndex := 46, descriptorIndex := 47, attributes := #[] }])
  fields := #[{ name := "HI_BYTE_SHIFT", type := .int, accessFlags := 26, slot := 0, constantValue := 0 }, { name := "LO_BYTE_SHIFT", type := .int, accessFlags := 26, slot := 1, constantValue := 0 }, { name := "MAX_LENGTH", type := .int, accessFlags := 24, slot := 2, constantValue := 0 }, { name := "$assertionsDisabled", type := .boolean, accessFlags := 4120, slot := 3, constantValue := 0 }]
  methods := #[k8m0, k8m1, k8m2, k8m3]
  instanceTypes := #[]
  staticTypes := #[.int, .int, .int, .boolean]
  resolved := Array.replicate 635 none
  statics := none }

def pool9 : Array CpInfo := pool [(8, .class_ 10), (1, u "java/lang/Iterable"), (24, .class_ 36), (0, u "java/lang/Object")] 25

/-- java/lang/Iterable -/
def k9 : Class := { plain "java/lang/Iterable" (some 0) with
  accessFlags := 1537
  interfaces := #[]
  cf := some (fileOf pool9 8 #[] #[] 1537 35 #[] #[])
  fields := #[]
  methods := #[]
  instanceTypes := #[]
  staticTypes := #[]
  resolved := Array.replicate 62 none
  statics := none }

def pool10 : Array CpInfo := pool [(10, .class_ 12), (1, u "java/util/Collection"), (47, .class_ 61), (0, u "java/lang/Object"), (0, .class_ 63), (0, u "java/lang/Iterable")] 51

/-- java/util/Collection -/
def k10 : Class := { plain "java/util/Collection" (some 0) with
  accessFlags := 1537
  interfaces := #[9]
  cf := some (fileOf pool10 10 #[] #[] 1537 60 #[62] #[])
  fields := #[]
  methods := #[]
  instanceTypes := #[]
  staticTypes := #[]
  resolved := Array.replicate 115 none
  statics := none }

def pool11 : Array CpInfo := pool [(1, .methodref 2 3), (0, .class_ 4), (0, .nameAndType 5 6), (0, u "java/lang/Object"), (0, u "<init>"), (0, u "()V"), (1, .class_ 10), (1, u "java/util/AbstractCollection"), (66, .class_ 78), (0, u "java/util/Collection")] 81

def k11c0 : Code := { maxStack := 1, maxLocals := 1, code := jdk_22_method_1_code, exceptionTable := #[], attributes := #[] }
def k11m0 : Method := { name := "<init>", desc := "()V", sig := { parameters := [], returnType := none }, accessFlags := 4, code := some k11c0 }
/-- java/util/AbstractCollection -/
def k11 : Class := { plain "java/util/AbstractCollection" (some 0) with
  accessFlags := 1057
  interfaces := #[10]
  cf := some (fileOf pool11 8 #[] #[{ accessFlags := 4, nameIndex := 5, descriptorIndex := 6, attributes := #[] }] 1057 2 #[77] #[])
  fields := #[]
  methods := #[k11m0]
  instanceTypes := #[]
  staticTypes := #[]
  resolved := Array.replicate 160 none
  statics := none }

def pool12 : Array CpInfo := pool [(8, .class_ 10), (1, u "java/util/SequencedCollection"), (15, .class_ 27), (0, u "java/lang/Object"), (0, .class_ 29), (0, u "java/util/Collection")] 27

/-- java/util/SequencedCollection -/
def k12 : Class := { plain "java/util/SequencedCollection" (some 0) with
  accessFlags := 1537
  interfaces := #[10]
  cf := some (fileOf pool12 8 #[] #[] 1537 26 #[28] #[])
  fields := #[]
  methods := #[]
  instanceTypes := #[]
  staticTypes := #[]
  resolved := Array.replicate 57 none
  statics := none }

def pool13 : Array CpInfo := pool [(8, .class_ 10), (1, u "java/util/List"), (92, .class_ 104), (0, u "java/lang/Object"), (15, .class_ 121), (0, u "java/util/SequencedCollection")] 129

/-- java/util/List -/
def k13 : Class := { plain "java/util/List" (some 0) with
  accessFlags := 1537
  interfaces := #[12]
  cf := some (fileOf pool13 8 #[] #[] 1537 103 #[120] #[])
  fields := #[]
  methods := #[]
  instanceTypes := #[]
  staticTypes := #[]
  resolved := Array.replicate 251 none
  statics := none }

def pool14 : Array CpInfo := pool [(1, .methodref 2 3), (0, .class_ 4), (0, .nameAndType 5 6), (0, u "java/util/AbstractCollection"), (0, u "<init>"), (0, u "()V"), (0, .fieldref 8 9), (0, .class_ 10), (0, .nameAndType 11 12), (0, u "java/util/AbstractList"), (0, u "modCount"), (0, u "I"), (64, .class_ 78), (0, u "java/util/AbstractList$Itr"), (3, .class_ 83), (0, u "java/util/AbstractList$ListItr"), (9, .class_ 94), (0, u "java/util/AbstractList$RandomAccessSubList"), (3, .class_ 99), (0, u "java/util/AbstractList$SubList"), (33, .class_ 134), (0, u "java/util/List"), (73, .class_ 209), (0, u "java/util/AbstractList$SubList$1"), (0, .class_ 211), (0, u "java/util/AbstractList$RandomAccessSpliterator")] 6

def k14c0 : Code := { maxStack := 2, maxLocals := 1, code := jdk_39_method_1_code, exceptionTable := #[], attributes := #[] }
def k14m0 : Method := { name := "<init>", desc := "()V", sig := { parameters := [], returnType := none }, accessFlags := 4, code := some k14c0 }
/-- java/util/AbstractList -/
def k14 : Class := { plain "java/util/AbstractList" (some 11) with
  accessFlags := 1057
  interfaces := #[13]
  cf := some (fileOf pool14 8 #[.nestMembers #[93, 98, 208, 210, 82, 77]] #[{ accessFlags := 4, nameIndex := 5, descriptorIndex := 6, attributes := #[] }] 1057 2 #[133] #[{ accessFlags := 132, nameIndex := 11, descriptorIndex := 12, attributes := #[] }])
  fields := #[{ name := "modCount", type := .int, accessFlags := 132, slot := 0, constantValue := 0 }]
  methods := #[k14m0]
  instanceTypes := #[.int]
  staticTypes := #[]
  resolved := Array.replicate 218 none
  statics := none }

def pool15 : Array CpInfo := pool [(1, .class_ 2), (0, u "java/util/RandomAccess"), (0, .class_ 4), (0, u "java/lang/Object")] 2

/-- java/util/RandomAccess -/
def k15 : Class := { plain "java/util/RandomAccess" (some 0) with
  accessFlags := 1537
  interfaces := #[]
  cf := some (fileOf pool15 1 #[] #[] 1537 3 #[] #[])
  fields := #[]
  methods := #[]
  instanceTypes := #[]
  staticTypes := #[]
  resolved := Array.replicate 7 none
  statics := none }

def pool16 : Array CpInfo := pool [(1, .class_ 2), (0, u "java/lang/Cloneable"), (0, .class_ 4), (0, u "java/lang/Object")] 2

/-- java/lang/Cloneable -/
def k16 : Class := { plain "java/lang/Cloneable" (some 0) with
  accessFlags := 1537
  interfaces := #[]
  cf := some (fileOf pool16 1 #[] #[] 1537 3 #[] #[])
  fields := #[]
  methods := #[]
  instanceTypes := #[]
  staticTypes := #[]
  resolved := Array.replicate 7 none
  statics := none }

def pool17 : Array CpInfo := pool [(1, .methodref 2 3), (0, .class_ 4), (0, .nameAndType 5 6), (0, u "java/util/AbstractList"), (0, u "<init>"), (0, u "()V"), (2, .fieldref 10 11), (0, .class_ 12), (0, .nameAndType 13 14), (0, u "java/util/ArrayList"), (0, u "elementData"), (0, u "[Ljava/lang/Object;"), (2, u "EMPTY_ELEMENTDATA"), (21, .fieldref 10 40), (0, .nameAndType 41 14), (0, u "DEFAULTCAPACITY_EMPTY_ELEMENTDATA"), (8, u "size"), (0, u "I"), (96, .class_ 149), (0, u "java/util/List"), (112, .class_ 263), (0, u "java/util/ArrayList$ListItr"), (3, .class_ 268), (0, u "java/util/ArrayList$Itr"), (7, .class_ 277), (0, u "java/util/ArrayList$SubList"), (12, .class_ 291), (0, u "java/util/ArrayList$ArrayListSpliterator"), (37, .class_ 330), (0, u "java/util/RandomAccess"), (0, .class_ 332), (0, u "java/lang/Cloneable"), (0, .class_ 334), (0, u "java/io/Serializable"), (0, u "serialVersionUID"), (0, u "J"), (3, u "DEFAULT_CAPACITY"), (159, .class_ 501), (0, u "java/util/ArrayList$SubList$2"), (0, .class_ 503), (0, u "java/util/ArrayList$SubList$1")] 5

def k17c0 : Code := { maxStack := 2, maxLocals := 1, code := jdk_38_method_2_code, exceptionTable := #[], attributes := #[] }
def k17m0 : Method := { name := "<init>", desc := "()V", sig := { parameters := [], returnType := none }, accessFlags := 1, code := some k17c0 }
/-- java/util/ArrayList -/
def k17 : Class := { plain "java/util/ArrayList" (some 14) with
  accessFlags := 33
  interfaces := #[13, 15, 16, 2]
  cf := some (fileOf pool17 10 #[.nestMembers #[290, 276, 500, 502, 262, 267]] #[{ accessFlags := 1, nameIndex := 5, descriptorIndex := 6, attributes := #[] }] 33 2 #[148, 329, 331, 333] #[{ accessFlags := 26, nameIndex := 335, descriptorIndex := 336, attributes := #[] }, { accessFlags := 26, nameIndex := 340, descriptorIndex := 51, attributes := #[] }, { accessFlags := 26, nameIndex := 17, descriptorIndex := 14, attributes := #[] }, { accessFlags := 26, nameIndex := 41, descriptorIndex := 14, attributes := #[] }, { accessFlags := 128, nameIndex := 13, descriptorIndex := 14, attributes := #[] }, { accessFlags := 2, nameIndex := 50, descriptorIndex := 51, attributes := #[] }])
  fields := #[{ name := "serialVersionUID", type := .long, accessFlags := 26, slot := 0, constantValue := 0 }, { name := "DEFAULT_CAPACITY", type := .int, accessFlags := 26, slot := 1, constantValue := 0 }, { name := "EMPTY_ELEMENTDATA", type := (.array (.object "java/lang/Object")), accessFlags := 26, slot := 2, constantValue := 0 }, { name := "DEFAULTCAPACITY_EMPTY_ELEMENTDATA", type := (.array (.object "java/lang/Object")), accessFlags := 26, slot := 3, constantValue := 0 }, { name := "elementData", type := (.array (.object "java/lang/Object")), accessFlags := 128, slot := 1, constantValue := 0 }, { name := "size", type := .int, accessFlags := 2, slot := 2, constantValue := 0 }]
  methods := #[k17m0]
  instanceTypes := #[.int, (.array (.object "java/lang/Object")), .int]
  staticTypes := #[.long, .int, (.array (.object "java/lang/Object")), (.array (.object "java/lang/Object"))]
  resolved := Array.replicate 509 none
  statics := some 1 }

def pool18 : Array CpInfo := pool [(1, .methodref 2 3), (0, .class_ 4), (0, .nameAndType 5 6), (0, u "java/lang/Object"), (0, u "<init>"), (0, u "()V"), (0, .class_ 8), (0, u "java/lang/Record")] 13

def k18c0 : Code := { maxStack := 1, maxLocals := 1, code := jdk_30_method_1_code, exceptionTable := #[], attributes := #[] }
def k18m0 : Method := { name := "<init>", desc := "()V", sig := { parameters := [], returnType := none }, accessFlags := 4, code := some k18c0 }
/-- java/lang/Record -/
def k18 : Class := { plain "java/lang/Record" (some 0) with
  accessFlags := 1057
  interfaces := #[]
  cf := some (fileOf pool18 7 #[] #[{ accessFlags := 4, nameIndex := 5, descriptorIndex := 6, attributes := #[] }] 1057 2 #[] #[])
  fields := #[]
  methods := #[k18m0]
  instanceTypes := #[]
  staticTypes := #[]
  resolved := Array.replicate 22 none
  statics := none }

def pool19 : Array CpInfo := pool [(1, .methodref 2 3), (0, .class_ 4), (0, .nameAndType 5 6), (0, u "java/lang/Record"), (0, u "<init>"), (0, u "()V"), (0, .fieldref 8 9), (0, .class_ 10), (0, .nameAndType 11 12), (0, u "com/example/vartija/vartija/protocol/CreateRequest"), (0, u "path"), (0, u "Ljava/lang/String;"), (0, .fieldref 8 14), (0, .nameAndType 15 16), (0, u "data"), (0, u "[B"), (0, .fieldref 8 18), (0, .nameAndType 19 20), (0, u "acl"), (0, u "Ljava/util/List;"), (0, .fieldref 8 22), (0, .nameAndType 23 24), (0, u "flags"), (0, u "I"), (24, u "(Ljava/lang/String;[BLjava/util/List;I)V"), (41, u "EPHEMERAL"), (2, u "SEQUENTIAL"), (9, u "ephemeral"), (0, u "()Z")] 56

def k19c0 : Code := { maxStack := 2, maxLocals := 5, code := prog_30_method_1_code, exceptionTable := #[], attributes := #[] }
def k19m0 : Method := { name := "<init>", desc := "(Ljava/lang/String;[BLjava/util/List;I)V", sig := { parameters := [(.object "java/lang/String"), (.array .byte), (.object "java/util/List"), .int], returnType := none }, accessFlags := 1, code := some k19c0 }
def k19c1 : Code := { maxStack := 2, maxLocals := 1, code := prog_30_method_4_code, exceptionTable := #[], attributes := #[] }
def k19m1 : Method := { name := "ephemeral", desc := "()Z", sig := { parameters := [], returnType := some .boolean }, accessFlags := 1, code := some k19c1 }
/-- com/example/vartija/vartija/protocol/CreateRequest -/
def k19 : Class := { plain "com/example/vartija/vartija/protocol/CreateRequest" (some 18) with
  accessFlags := 49
  interfaces := #[]
  cf := some (fileOf pool19 8 #[] #[{ accessFlags := 1, nameIndex := 5, descriptorIndex := 49, attributes := #[] }, { accessFlags := 1, nameIndex := 104, descriptorIndex := 105, attributes := #[] }] 49 2 #[] #[{ accessFlags := 18, nameIndex := 11, descriptorIndex := 12, attributes := #[] }, { accessFlags := 18, nameIndex := 15, descriptorIndex := 16, attributes := #[] }, { accessFlags := 18, nameIndex := 19, descriptorIndex := 20, attributes := #[] }, { accessFlags := 18, nameIndex := 23, descriptorIndex := 24, attributes := #[] }, { accessFlags := 25, nameIndex := 91, descriptorIndex := 24, attributes := #[] }, { accessFlags := 25, nameIndex := 94, descriptorIndex := 24, attributes := #[] }])
  fields := #[{ name := "path", type := (.object "java/lang/String"), accessFlags := 18, slot := 0, constantValue := 0 }, { name := "data", type := (.array .byte), accessFlags := 18, slot := 1, constantValue := 0 }, { name := "acl", type := (.object "java/util/List"), accessFlags := 18, slot := 2, constantValue := 0 }, { name := "flags", type := .int, accessFlags := 18, slot := 3, constantValue := 0 }, { name := "EPHEMERAL", type := .int, accessFlags := 25, slot := 0, constantValue := 0 }, { name := "SEQUENTIAL", type := .int, accessFlags := 25, slot := 1, constantValue := 0 }]
  methods := #[k19m0, k19m1]
  instanceTypes := #[(.object "java/lang/String"), (.array .byte), (.object "java/util/List"), .int]
  staticTypes := #[.int, .int]
  resolved := Array.replicate 162 none
  statics := none }

def pool20 : Array CpInfo := pool [(4, .class_ 6), (1, u "java/lang/Object"), (0, u "<init>"), (0, u "()V"), (5, .class_ 16), (1, u "java/lang/StringLatin1"), (104, u "$assertionsDisabled"), (0, u "Z"), (98, .class_ 223), (1, u "java/lang/StringLatin1$LinesSpliterator"), (166, .class_ 391), (0, u "java/lang/StringLatin1$CharsSpliterator")] 3

def k20m0 : Method := { name := "<init>", desc := "()V", sig := { parameters := [], returnType := none }, accessFlags := 0, code := none }
/-- java/lang/StringLatin1 -/
def k20 : Class := { plain "java/lang/StringLatin1" (some 0) with
  accessFlags := 48
  interfaces := #[]
  cf := some (fileOf pool20 14 #[.nestMembers #[390, 221]] #[{ accessFlags := 0, nameIndex := 7, descriptorIndex := 8, attributes := #[] }] 48 4 #[] #[{ accessFlags := 4120, nameIndex := 121, descriptorIndex := 122, attributes := #[] }])
  fields := #[{ name := "$assertionsDisabled", type := .boolean, accessFlags := 4120, slot := 0, constantValue := 0 }]
  methods := #[k20m0]
  instanceTypes := #[]
  staticTypes := #[.boolean]
  resolved := Array.replicate 395 none
  statics := none }

def pool21 : Array CpInfo := pool [(2, .class_ 4), (1, u "java/lang/Object"), (0, u "<init>"), (0, u "()V"), (17, .class_ 26), (1, u "jdk/internal/util/Preconditions"), (28, .class_ 56), (0, u "jdk/internal/util/Preconditions$4"), (57, .class_ 115), (0, u "jdk/internal/util/Preconditions$1"), (7, u "SIOOBE_FORMATTER"), (0, u "Ljava/util/function/BiFunction;"), (0, .class_ 126), (0, u "jdk/internal/util/Preconditions$2"), (3, u "AIOOBE_FORMATTER"), (0, .class_ 132), (0, u "jdk/internal/util/Preconditions$3"), (3, u "IOOBE_FORMATTER")] 57

def k21m0 : Method := { name := "<init>", desc := "()V", sig := { parameters := [], returnType := none }, accessFlags := 1, code := none }
/-- jdk/internal/util/Preconditions -/
def k21 : Class := { plain "jdk/internal/util/Preconditions" (some 0) with
  accessFlags := 33
  interfaces := #[]
  cf := some (fileOf pool21 24 #[.nestMembers #[55, 131, 125, 114]] #[{ accessFlags := 1, nameIndex := 5, descriptorIndex := 6, attributes := #[] }] 33 2 #[] #[{ accessFlags := 25, nameIndex := 123, descriptorIndex := 124, attributes := #[] }, { accessFlags := 25, nameIndex := 130, descriptorIndex := 124, attributes := #[] }, { accessFlags := 25, nameIndex := 136, descriptorIndex := 124, attributes := #[] }])
  fields := #[{ name := "SIOOBE_FORMATTER", type := (.object "java/util/function/BiFunction"), accessFlags := 25, slot := 0, constantValue := 0 }, { name := "AIOOBE_FORMATTER", type := (.object "java/util/function/BiFunction"), accessFlags := 25, slot := 1, constantValue := 0 }, { name := "IOOBE_FORMATTER", type := (.object "java/util/function/BiFunction"), accessFlags := 25, slot := 2, constantValue := 0 }]
  methods := #[k21m0]
  instanceTypes := #[]
  staticTypes := #[(.object "java/util/function/BiFunction"), (.object "java/util/function/BiFunction"), (.object "java/util/function/BiFunction")]
  resolved := Array.replicate 194 none
  statics := some 2 }

def pool22 : Array CpInfo := pool [(9, u "<init>"), (6, .class_ 18), (1, u "java/lang/Object"), (0, u "()V"), (1, .class_ 23), (1, u "jdk/internal/util/ArraysSupport"), (0, u "LOG2_ARRAY_LONG_INDEX_SCALE"), (0, u "I"), (2, u "U"), (0, u "Ljdk/internal/misc/Unsafe;"), (8, u "BIG_ENDIAN"), (0, u "Z"), (8, u "LOG2_BYTE_BIT_SIZE"), (4, u "LOG2_ARRAY_INT_INDEX_SCALE"), (54, u "JLA"), (0, u "Ljdk/internal/access/JavaLangAccess;"), (11, u "LOG2_ARRAY_BOOLEAN_INDEX_SCALE"), (9, u "LOG2_ARRAY_BYTE_INDEX_SCALE"), (5, u "LOG2_ARRAY_CHAR_INDEX_SCALE"), (5, u "LOG2_ARRAY_SHORT_INDEX_SCALE"), (18, u "LOG2_ARRAY_FLOAT_INDEX_SCALE"), (24, u "LOG2_ARRAY_DOUBLE_INDEX_SCALE"), (89, u "T_BOOLEAN"), (2, u "T_CHAR"), (1, u "T_FLOAT"), (1, u "T_DOUBLE"), (1, u "T_BYTE"), (1, u "T_SHORT"), (1, u "T_INT"), (1, u "T_LONG"), (1, u "SOFT_MAX_ARRAY_LENGTH")] 83

def k22m0 : Method := { name := "<init>", desc := "()V", sig := { parameters := [], returnType := none }, accessFlags := 2, code := none }
/-- jdk/internal/util/ArraysSupport -/
def k22 : Class := { plain "jdk/internal/util/ArraysSupport" (some 0) with
  accessFlags := 33
  interfaces := #[]
  cf := some (fileOf pool22 21 #[] #[{ accessFlags := 2, nameIndex := 9, descriptorIndex := 19, attributes := #[] }] 33 16 #[] #[{ accessFlags := 24, nameIndex := 28, descriptorIndex := 29, attributes := #[] }, { accessFlags := 26, nameIndex := 38, descriptorIndex := 39, attributes := #[] }, { accessFlags := 25, nameIndex := 121, descriptorIndex := 25, attributes := #[] }, { accessFlags := 25, nameIndex := 131, descriptorIndex := 25, attributes := #[] }, { accessFlags := 25, nameIndex := 137, descriptorIndex := 25, attributes := #[] }, { accessFlags := 25, nameIndex := 143, descriptorIndex := 25, attributes := #[] }, { accessFlags := 25, nameIndex := 53, descriptorIndex := 25, attributes := #[] }, { accessFlags := 25, nameIndex := 24, descriptorIndex := 25, attributes := #[] }, { accessFlags := 25, nameIndex := 162, descriptorIndex := 25, attributes := #[] }, { accessFlags := 25, nameIndex := 187, descriptorIndex := 25, attributes := #[] }, { accessFlags := 26, nameIndex := 48, descriptorIndex := 25, attributes := #[] }, { accessFlags := 25, nameIndex := 277, descriptorIndex := 25, attributes := #[] }, { accessFlags := 25, nameIndex := 280, descriptorIndex := 25, attributes := #[] }, { accessFlags := 25, nameIndex := 282, descriptorIndex := 25, attributes := #[] }, { accessFlags := 25, nameIndex := 284, descriptorIndex := 25, attributes := #[] }, { accessFlags := 25, nameIndex := 286, descriptorIndex := 25, attributes := #[] }, { accessFlags := 25, nameIndex := 288, descriptorIndex := 25, attributes := #[] }, { accessFlags := 25, nameIndex := 290, descriptorIndex := 25, attributes := #[] }, { accessFlags := 25, nameIndex := 292, descriptorIndex := 25, attributes := #[] }, { accessFlags := 26, nameIndex := 108, descriptorIndex := 109, attributes := #[] }, { accessFlags := 25, nameIndex := 294, descriptorIndex := 25, attributes := #[] }])
  fields := #[{ name := "U", type := (.object "jdk/internal/misc/Unsafe"), accessFlags := 24, slot := 0, constantValue := 0 }, { name := "BIG_ENDIAN", type := .boolean, accessFlags := 26, slot := 1, constantValue := 0 }, { name := "LOG2_ARRAY_BOOLEAN_INDEX_SCALE", type := .int, accessFlags := 25, slot := 2, constantValue := 0 }, { name := "LOG2_ARRAY_BYTE_INDEX_SCALE", type := .int, accessFlags := 25, slot := 3, constantValue := 0 }, { name := "LOG2_ARRAY_CHAR_INDEX_SCALE", type := .int, accessFlags := 25, slot := 4, constantValue := 0 }, { name := "LOG2_ARRAY_SHORT_INDEX_SCALE", type := .int, accessFlags := 25, slot := 5, constantValue := 0 }, { name := "LOG2_ARRAY_INT_INDEX_SCALE", type := .int, accessFlags := 25, slot := 6, constantValue := 0 }, { name := "LOG2_ARRAY_LONG_INDEX_SCALE", type := .int, accessFlags := 25, slot := 7, constantValue := 0 }, { name := "LOG2_ARRAY_FLOAT_INDEX_SCALE", type := .int, accessFlags := 25, slot := 8, constantValue := 0 }, { name := "LOG2_ARRAY_DOUBLE_INDEX_SCALE", type := .int, accessFlags := 25, slot := 9, constantValue := 0 }, { name := "LOG2_BYTE_BIT_SIZE", type := .int, accessFlags := 26, slot := 10, constantValue := 0 }, { name := "T_BOOLEAN", type := .int, accessFlags := 25, slot := 11, constantValue := 0 }, { name := "T_CHAR", type := .int, accessFlags := 25, slot := 12, constantValue := 0 }, { name := "T_FLOAT", type := .int, accessFlags := 25, slot := 13, constantValue := 0 }, { name := "T_DOUBLE", type := .int, accessFlags := 25, slot := 14, constantValue := 0 }, { name := "T_BYTE", type := .int, accessFlags := 25, slot := 15, constantValue := 0 }, { name := "T_SHORT", type := .int, accessFlags := 25, slot := 16, constantValue := 0 }, { name := "T_INT", type := .int, accessFlags := 25, slot := 17, constantValue := 0 }, { name := "T_LONG", type := .int, accessFlags := 25, slot := 18, constantValue := 0 }, { name := "JLA", type := (.object "jdk/internal/access/JavaLangAccess"), accessFlags := 26, slot := 19, constantValue := 0 }, { name := "SOFT_MAX_ARRAY_LENGTH", type := .int, accessFlags := 25, slot := 20, constantValue := 0 }]
  methods := #[k22m0]
  instanceTypes := #[]
  staticTypes := #[(.object "jdk/internal/misc/Unsafe"), .boolean, .int, .int, .int, .int, .int, .int, .int, .int, .int, .int, .int, .int, .int, .int, .int, .int, .int, (.object "jdk/internal/access/JavaLangAccess"), .int]
  resolved := Array.replicate 378 none
  statics := none }

/-- the primitive byte -/
def k23 : Class := { plain "byte" none with kind := .primitive 'B', accessFlags := 0x411 }
/-- [B -/
def k24 : Class := { plain "[B" (some 0) with kind := .array 23 .byte, interfaces := #[16, 2], accessFlags := 1041 }

/-- the primitive char -/
def k25 : Class := { plain "char" none with kind := .primitive 'C', accessFlags := 0x411 }
/-- [C -/
def k26 : Class := { plain "[C" (some 0) with kind := .array 25 .char, interfaces := #[16, 2], accessFlags := 1041 }

/-- the primitive int -/
def k27 : Class := { plain "int" none with kind := .primitive 'I', accessFlags := 0x411 }
/-- [I -/
def k28 : Class := { plain "[I" (some 0) with kind := .array 27 .int, interfaces := #[16, 2], accessFlags := 1041 }

/-- [Ljava/lang/Object; -/
def k29 : Class := { plain "[Ljava/lang/Object;" (some 0) with kind := .array 0 (.object "java/lang/Object"), interfaces := #[16, 2], accessFlags := 1041 }

def heap : Heap := #[{ cls := 7, slots := #[.long 0, .int 1, .null, .int 0, .null, .int 0, .int 0], vm := .statics 7 },
  { cls := 17, slots := #[.long 0, .int 0, .ref 3, .ref 4], vm := .statics 17 },
  { cls := 21, slots := #[.null, .null, .null], vm := .statics 21 },
  { cls := 29, slots := #[], vm := .none },
  { cls := 29, slots := #[], vm := .none }]
def classes : Array Class := #[k0, k1, k2, k3, k4, k5, k6, k7, k8, k9, k10, k11, k12, k13, k14, k15, k16, k17, k18, k19, k20, k21, k22, k23, k24, k25, k26, k27, k28, k29]
def interned : List (Array UInt16 × Addr) := []
def slotsUsed : Nat := 14
def theMethod : MethodId := ⟨1, 1⟩
def args0 : Array Value := #[.int 1, .int 2]
def aboutOver (below : List Frame) : State where
  vm := { classes := classes, interned := interned.toArray }
  heap := heap
  slotsUsed := slotsUsed
  threads := #[{ frames := .invoking theMethod args0 :: below }]
def below0 : List Frame := [.native { method := ⟨0, 0⟩, args := #[] }]
def about1 : State := aboutOver below0
def p0 : Program := .bare "" "" ""
def e0 : Env := launch0.env 0 0 0
theorem w_frames : about1.frames = Frame.invoking theMethod args0 :: below0 := rfl
set_option maxRecDepth 65536 in
theorem w_args : argsFit about1.vm theMethod args0 = true := by decide +kernel
set_option maxRecDepth 65536 in
theorem w_heap : heapFits about1 = true := by decide +kernel
set_option maxRecDepth 65536 in
theorem w_runnable : about1.curStatus? = some .runnable := by decide +kernel
set_option maxRecDepth 65536 in
theorem w_alone : about1.alone = true := by decide +kernel
set_option maxRecDepth 65536 in
theorem w_named : about1.methodNamed? x = some theMethod := by decide +kernel
set_option maxRecDepth 65536 in
theorem w_hears : about1.hears theMethod below0 = true := by decide +kernel
set_option maxRecDepth 65536 in
theorem w_ripe : about1.ripe theMethod args0 below0 = true := by decide +kernel
theorem w_running : about1.status = .running := rfl
set_option maxRecDepth 65536 in
theorem w_room : about1.hasRoom e0.platform room_1 = true :=
  launch0.hasRoom_least _ room_1 (by decide +kernel) (by decide +kernel) (by decide +kernel) (by decide +kernel) (by decide +kernel) (by decide +kernel)
theorem allAtoms_all (ts : List Jvm.Cond) (a : Array Jvm.Value) (st : Jvm.State) : (allAtoms ts).before a st = ts.all (fun c => c.before a st) := by
  induction ts with
  | nil => rfl
  | cons c t ih =>
    show (Jvm.Cond.and c (allAtoms t)).before a st = _
    rw [Jvm.Cond.before_and, ih, List.all_cons]
def words1 : List Jvm.Cond := Jvm.Cond.code x code maxLocals ret :: tables_1
/-- a 'code' word, met by the world's own term for the bytes: nothing is compared byte by byte -/
theorem code_word {y : MethodName} {bytes : ByteArray} {mx : Nat} {rt : Option FieldType} {a : Array Value} {s : State} {m : MethodId} {meth : Method} {c : Code} (h1 : s.methodNamed? y = some m) (h2 : s.vm.method? m = some meth) (h3 : meth.code = some c) (h4 : c.code = bytes)
    (h5 : (c.maxLocals == mx && c.exceptionTable.isEmpty && decide (c.maxStack ≤ mostOperands) && decide (meth.sig.returnType = rt) && !meth.locks && decide (parseMethodDescriptor y.desc = some meth.sig)) = true) : (Jvm.Cond.code y bytes mx rt).before a s = true := by
  simp only [Bool.and_eq_true, beq_iff_eq, Bool.not_eq_true', decide_eq_true_eq] at h5
  obtain ⟨⟨⟨⟨⟨g1, g2⟩, g3⟩, g4⟩, g5⟩, g6⟩ := h5
  simp [Cond.before, Cond.holds, Cond.value, h1, h2, h3, h4, g1, g2, g3, g4, g5, g6]
def isCode : Jvm.Cond → Bool
  | .code _ _ _ _ => true
  | _ => false
theorem all_split {L : List Jvm.Cond} {P : Jvm.Cond → Bool} (h1 : L.all (fun c => isCode c || P c) = true) (h2 : ∀ c ∈ L.filter isCode, P c = true) : L.all P = true := by
  refine List.all_eq_true.mpr fun c hc => ?_
  have h := List.all_eq_true.mp h1 c hc
  rcases Bool.eq_false_or_eq_true (isCode c) with hi | hi
  · exact h2 c (List.mem_filter.mpr ⟨hc, hi⟩)
  · simpa [hi] using h
set_option maxRecDepth 65536 in
theorem w_c0 : (Jvm.Cond.code x code maxLocals ret).before args0 about1 = true := code_word (m := ⟨1, 1⟩) (meth := k1m1) (c := k1c1) (by decide +kernel) rfl rfl rfl (by decide +kernel)
set_option maxRecDepth 65536 in
theorem w_c1 : (Jvm.Cond.code ({ cls := "java/lang/String", name := "<init>", desc := "([C)V" } : Jvm.MethodName) jdk_42_method_3_code (2 : Nat) (Option.none : Option Jvm.ClassFile.FieldType)).before args0 about1 = true := code_word (m := ⟨7, 1⟩) (meth := k7m1) (c := k7c1) (by decide +kernel) rfl rfl rfl (by decide +kernel)
set_option maxRecDepth 65536 in
theorem w_c2 : (Jvm.Cond.code ({ cls := "java/lang/String", name := "<init>", desc := "([CIILjava/lang/Void;)V" } : Jvm.MethodName) jdk_42_method_149_code (6 : Nat) (Option.none : Option Jvm.ClassFile.FieldType)).before args0 about1 = true := code_word (m := ⟨7, 2⟩) (meth := k7m2) (c := k7c2) (by decide +kernel) rfl rfl rfl (by decide +kernel)
set_option maxRecDepth 65536 in
theorem w_c3 : (Jvm.Cond.code ({ cls := "java/lang/Object", name := "<init>", desc := "()V" } : Jvm.MethodName) object_method_1_code (1 : Nat) (Option.none : Option Jvm.ClassFile.FieldType)).before args0 about1 = true := code_word (m := ⟨0, 0⟩) (meth := k0m0) (c := k0c0) (by decide +kernel) rfl rfl rfl (by decide +kernel)
set_option maxRecDepth 65536 in
theorem w_c4 : (Jvm.Cond.code ({ cls := "java/lang/StringUTF16", name := "compress", desc := "([CII)[B" } : Jvm.MethodName) jdk_52_method_16_code (6 : Nat) (Option.some (Jvm.ClassFile.FieldType.array Jvm.ClassFile.FieldType.byte))).before args0 about1 = true := code_word (m := ⟨8, 2⟩) (meth := k8m2) (c := k8c2) (by decide +kernel) rfl rfl rfl (by decide +kernel)
set_option maxRecDepth 65536 in
theorem w_c5 : (Jvm.Cond.code ({ cls := "java/lang/StringUTF16", name := "compress", desc := "([CI[BII)I" } : Jvm.MethodName) jdk_52_method_21_code (7 : Nat) (Option.some Jvm.ClassFile.FieldType.int)).before args0 about1 = true := code_word (m := ⟨8, 3⟩) (meth := k8m3) (c := k8c3) (by decide +kernel) rfl rfl rfl (by decide +kernel)
set_option maxRecDepth 65536 in
theorem w_c6 : (Jvm.Cond.code ({ cls := "java/lang/StringUTF16", name := "coderFromArrayLen", desc := "([BI)B" } : Jvm.MethodName) jdk_52_method_15_code (2 : Nat) (Option.some Jvm.ClassFile.FieldType.byte)).before args0 about1 = true := code_word (m := ⟨8, 1⟩) (meth := k8m1) (c := k8c1) (by decide +kernel) rfl rfl rfl (by decide +kernel)
set_option maxRecDepth 65536 in
theorem w_c7 : (Jvm.Cond.code ({ cls := "java/util/ArrayList", name := "<init>", desc := "()V" } : Jvm.MethodName) jdk_38_method_2_code (1 : Nat) (Option.none : Option Jvm.ClassFile.FieldType)).before args0 about1 = true := code_word (m := ⟨17, 0⟩) (meth := k17m0) (c := k17c0) (by decide +kernel) rfl rfl rfl (by decide +kernel)
set_option maxRecDepth 65536 in
theorem w_c8 : (Jvm.Cond.code ({ cls := "java/util/AbstractList", name := "<init>", desc := "()V" } : Jvm.MethodName) jdk_39_method_1_code (1 : Nat) (Option.none : Option Jvm.ClassFile.FieldType)).before args0 about1 = true := code_word (m := ⟨14, 0⟩) (meth := k14m0) (c := k14c0) (by decide +kernel) rfl rfl rfl (by decide +kernel)
set_option maxRecDepth 65536 in
theorem w_c9 : (Jvm.Cond.code ({ cls := "java/util/AbstractCollection", name := "<init>", desc := "()V" } : Jvm.MethodName) jdk_22_method_1_code (1 : Nat) (Option.none : Option Jvm.ClassFile.FieldType)).before args0 about1 = true := code_word (m := ⟨11, 0⟩) (meth := k11m0) (c := k11c0) (by decide +kernel) rfl rfl rfl (by decide +kernel)
set_option maxRecDepth 65536 in
theorem w_c10 : (Jvm.Cond.code ({ cls := "com/example/vartija/vartija/protocol/CreateRequest", name := "<init>", desc := "(Ljava/lang/String;[BLjava/util/List;I)V" } : Jvm.MethodName) prog_30_method_1_code (5 : Nat) (Option.none : Option Jvm.ClassFile.FieldType)).before args0 about1 = true := code_word (m := ⟨19, 0⟩) (meth := k19m0) (c := k19c0) (by decide +kernel) rfl rfl rfl (by decide +kernel)
set_option maxRecDepth 65536 in
theorem w_c11 : (Jvm.Cond.code ({ cls := "java/lang/Record", name := "<init>", desc := "()V" } : Jvm.MethodName) jdk_30_method_1_code (1 : Nat) (Option.none : Option Jvm.ClassFile.FieldType)).before args0 about1 = true := code_word (m := ⟨18, 0⟩) (meth := k18m0) (c := k18c0) (by decide +kernel) rfl rfl rfl (by decide +kernel)
set_option maxRecDepth 65536 in
theorem w_c12 : (Jvm.Cond.code ({ cls := "com/example/vartija/vartija/protocol/CreateRequest", name := "ephemeral", desc := "()Z" } : Jvm.MethodName) prog_30_method_4_code (1 : Nat) (Option.some Jvm.ClassFile.FieldType.boolean)).before args0 about1 = true := code_word (m := ⟨19, 1⟩) (meth := k19m1) (c := k19c1) (by decide +kernel) rfl rfl rfl (by decide +kernel)
def codes1 : List Jvm.Cond := [Jvm.Cond.code x code maxLocals ret, Jvm.Cond.code ({ cls := "java/lang/String", name := "<init>", desc := "([C)V" } : Jvm.MethodName) jdk_42_method_3_code (2 : Nat) (Option.none : Option Jvm.ClassFile.FieldType), Jvm.Cond.code ({ cls := "java/lang/String", name := "<init>", desc := "([CIILjava/lang/Void;)V" } : Jvm.MethodName) jdk_42_method_149_code (6 : Nat) (Option.none : Option Jvm.ClassFile.FieldType), Jvm.Cond.code ({ cls := "java/lang/Object", name := "<init>", desc := "()V" } : Jvm.MethodName) object_method_1_code (1 : Nat) (Option.none : Option Jvm.ClassFile.FieldType), Jvm.Cond.code ({ cls := "java/lang/StringUTF16", name := "compress", desc := "([CII)[B" } : Jvm.MethodName) jdk_52_method_16_code (6 : Nat) (Option.some (Jvm.ClassFile.FieldType.array Jvm.ClassFile.FieldType.byte)), Jvm.Cond.code ({ cls := "java/lang/StringUTF16", name := "compress", desc := "([CI[BII)I" } : Jvm.MethodName) jdk_52_method_21_code (7 : Nat) (Option.some Jvm.ClassFile.FieldType.int), Jvm.Cond.code ({ cls := "java/lang/StringUTF16", name := "coderFromArrayLen", desc := "([BI)B" } : Jvm.MethodName) jdk_52_method_15_code (2 : Nat) (Option.some Jvm.ClassFile.FieldType.byte), Jvm.Cond.code ({ cls := "java/util/ArrayList", name := "<init>", desc := "()V" } : Jvm.MethodName) jdk_38_method_2_code (1 : Nat) (Option.none : Option Jvm.ClassFile.FieldType), Jvm.Cond.code ({ cls := "java/util/AbstractList", name := "<init>", desc := "()V" } : Jvm.MethodName) jdk_39_method_1_code (1 : Nat) (Option.none : Option Jvm.ClassFile.FieldType), Jvm.Cond.code ({ cls := "java/util/AbstractCollection", name := "<init>", desc := "()V" } : Jvm.MethodName) jdk_22_method_1_code (1 : Nat) (Option.none : Option Jvm.ClassFile.FieldType), Jvm.Cond.code ({ cls := "com/example/vartija/vartija/protocol/CreateRequest", name := "<init>", desc := "(Ljava/lang/String;[BLjava/util/List;I)V" } : Jvm.MethodName) prog_30_method_1_code (5 : Nat) (Option.none : Option Jvm.ClassFile.FieldType), Jvm.Cond.code ({ cls := "java/lang/Record", name := "<init>", desc := "()V" } : Jvm.MethodName) jdk_30_method_1_code (1 : Nat) (Option.none : Option Jvm.ClassFile.FieldType), Jvm.Cond.code ({ cls := "com/example/vartija/vartija/protocol/CreateRequest", name := "ephemeral", desc := "()Z" } : Jvm.MethodName) prog_30_method_4_code (1 : Nat) (Option.some Jvm.ClassFile.FieldType.boolean)]
set_option maxRecDepth 65536 in
theorem codes_eq : words1.filter isCode = codes1 := rfl
theorem w_codes : ∀ c ∈ words1.filter isCode, c.before args0 about1 = true := by
  rw [codes_eq]
  intro c hc
  simp only [codes1, List.mem_cons, List.not_mem_nil, or_false] at hc
  rcases hc with rfl | rfl | rfl | rfl | rfl | rfl | rfl | rfl | rfl | rfl | rfl | rfl | rfl
  · exact w_c0
  · exact w_c1
  · exact w_c2
  · exact w_c3
  · exact w_c4
  · exact w_c5
  · exact w_c6
  · exact w_c7
  · exact w_c8
  · exact w_c9
  · exact w_c10
  · exact w_c11
  · exact w_c12
set_option maxRecDepth 65536 in
theorem w_t1 : (words1.take 24).all (fun c => isCode c || c.before args0 about1) = true := by decide +kernel
set_option maxRecDepth 65536 in
theorem w_t2 : ((words1.drop 24).take 24).all (fun c => isCode c || c.before args0 about1) = true := by decide +kernel
set_option maxRecDepth 65536 in
theorem w_t3 : (((words1.drop 24).drop 24).take 24).all (fun c => isCode c || c.before args0 about1) = true := by decide +kernel
set_option maxRecDepth 65536 in
theorem w_t4 : (((words1.drop 24).drop 24).drop 24).all (fun c => isCode c || c.before args0 about1) = true := by decide +kernel
theorem w_tables : (allAtoms (Jvm.Cond.code x code maxLocals ret :: tables_1)).before args0 about1 = true := by
  rw [allAtoms_all]
  show words1.all (fun c => c.before args0 about1) = true
  refine all_split ?_ w_codes
  rw [← List.take_append_drop 24 words1, List.all_append, w_t1, ← List.take_append_drop 24 (words1.drop 24), List.all_append, w_t2, ← List.take_append_drop 24 ((words1.drop 24).drop 24), List.all_append, w_t3, w_t4]
  rfl
set_option maxRecDepth 65536 in
theorem w_rest : rest_1_c.before args0 about1 = true := by decide +kernel
set_option maxRecDepth 65536 in
theorem w_case : (Jvm.Cond.and given_1 narrow_1).before args0 about1 = true := by decide +kernel
theorem w_applies : (headSpec (Jvm.Cond.code x code maxLocals ret :: tables_1) room_1).applies x e0.platform about1 = true :=
  (Spec.applies_iff w_frames).mpr ⟨w_running, w_runnable, w_alone, w_named, w_hears, w_ripe, w_room, w_tables⟩
theorem atStart : AtStart classFile x code maxLocals ret World_1 tables_1 room_1 Calls_1 rest_1 Pre_1 launch0 p0 e0 about1 theMethod args0 below0 :=
  ⟨lists_1, trivial, launch0.admits_env _ _ _, launch0.least_env, fairChoices_fair.cas, fairChoices_fair.clock, w_frames, w_args, w_heap, w_applies, trivial, w_rest, w_case⟩
end start1
theorem witness_1 : WitnessClaimed_1 := ⟨start1.p0, start1.e0, start1.about1, start1.theMethod, start1.args0, start1.below0, start1.atStart⟩
end Jvm.Pilot.@@N@@
