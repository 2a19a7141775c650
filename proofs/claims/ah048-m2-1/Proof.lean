import JvmDerived
import JvmDerived.Pilot.@@N@@Statement
import JvmDerived.Pilot.@@N@@Code
set_option linter.unusedVariables false
set_option linter.unusedSimpArgs false
namespace Jvm.RoadKit
open Sem ClassFile Op Lib Jvm.Stand Jvm.Free Jvm.LawKit
section New
variable {p : Program} {l : Launch} {e : Env} {R : Room} {s : State} {m : MethodId} {args : Array Value} {below : List Frame} {meth : Method} {c : Code} {T : State} {locs : List Loc} {cells slots : Nat}
theorem retI (X : Stand p l e R s m args below meth c T locs cells slots) (hx : p.tables.exec = Jvm.exec) {pc : Nat} {Ls : Array Slot} {z : Int32} {rest : List Value} (hret : meth.sig.returnType = some .int) (hd : decode c.code pc = .ok (.ireturn, 1)) {fs : List Frame}
    (hl : ∀ (f : JFrame) (acts : List Action), f.method = m → f.locked = none → f.entered = [] → (doReturn e (T.setTop f) acts (some (.int z))).1 = T.setFrames fs) : Steps p.tables e below (T.setTop (mkF m pc Ls (.int z :: rest))) (T.setFrames fs) := by
  have hm' : T.vm.method? m = some meth := X.method'
  have hn : narrow .int (.int z) = .int z := rfl
  show Steps p.tables e below (T.setTop { method := m, pc := pc, locals := Ls, stack := _ :: rest, locked := none }) _
  jvm_step X.here [X.here.top, hx, hd, hm', hret, hn]
  first | (intro acts; rw [hl _ acts rfl rfl rfl]) | rw [hl _ _ rfl rfl rfl]
  exact Steps.refl _
end New
/-- from this state a run goes on to an end that meets K -/
def Good (p : Program) (e : Env) (below : List Frame) (K : Outcome → State → Prop) (S : State) : Prop := ∃ s₂ o, Steps p.tables e below S s₂ ∧ s₂.status = .running ∧ Ended s₂ below o ∧ K o s₂
theorem Good.back {p : Program} {e : Env} {below : List Frame} {K : Outcome → State → Prop} {S S' : State} (h : ∀ t, Steps p.tables e below S' t → Steps p.tables e below S t) (g : Good p e below K S') : Good p e below K S := by
  obtain ⟨t, o, h1, h2⟩ := g
  exact ⟨t, o, h t h1, h2⟩
theorem Good.done {p : Program} {e : Env} {below : List Frame} {K : Outcome → State → Prop} {S t : State} {o : Outcome} (h1 : Steps p.tables e below S t) (h2 : t.status = .running) (h3 : Ended t below o) (h4 : K o t) : Good p e below K S := ⟨t, o, h1, h2, h3, h4⟩
end Jvm.RoadKit
namespace Jvm.Pilot.@@N@@
open Jvm Jvm.ClassFile Sem Op Lib Jvm.Free Jvm.Stand Jvm.LawKit Jvm.RoadKit Bundle Jvm.Pilot.@@N@@.Jvm.D
theorem own_m {d : Jvm.Cond} (i : Nat) (h : tables_1[i]? = some d) : d ∈ tables_1 := List.mem_of_getElem? h
theorem own_eqV {args : Array Value} {first s : State} {o : Option Outcome} {idx : List Nat} {a b : Term} {y : Value} (h : (Jvm.Cond.eq a b).value args first o s idx = some true) (hb : b.eval args first o idx s = some y) : a.eval args first o idx s = some y := by
  cases ha : a.eval args first o idx s with
  | none => simp [Jvm.Cond.value, ha] at h
  | some x => cases x <;> cases y <;> simp_all [Jvm.Cond.value]
theorem own_len {args : Array Value} {s : State} {t : Term} {a : Addr} {cl : Cell} {ty : FieldType} {k : Int32} (A : Arr s s.heap a cl ty) (ev : t.eval args s none [] s = some (.ref a)) (h : (Term.length t).eval args s none [] s = some (.int k)) : cl.slots.size < 2 ^ 31 ∧ cl.slots.size.toInt32 = k := by
  have ha : s.arrayAt? a = some cl := IntBox.arrayAt_of A.1 A.2.1 A.2.2
  simp [Term.eval, ev, ha] at h
  exact h

theorem own_neI {args : Array Value} {first s : State} {o : Option Outcome} {idx : List Nat} {a : Term} {x k : Int32} (h : (Jvm.Cond.eq a (Term.int k)).value args first o s idx = some (!true)) (ha : a.eval args first o idx s = some (.int x)) : ¬ (x = k) := by
  intro q
  have hb : (Term.int k).eval args first o idx s = some (.int k) := rfl
  simp [Jvm.Cond.value, ha, hb, q] at h
theorem own_staKeep {Z : State} {h h' : Heap} {C n d : String} {v : Value} {ws : List Addr} (F : Sta Z h C n d v) (K : Keep h h' ws) (q : ∀ x ∈ ws, ∀ c : Cell, h[x]? = some c → c.vm.isStatics = false) : Sta Z h' C n d v := by
  obtain ⟨cf, i, k, f, st, cell, h1, h2, h3, h4, h5, h6, h7⟩ := F
  refine ⟨cf, i, k, f, st, cell, h1, h2, h3, h4, K.2.1 st cell h5 (fun hm => ?_), h6, h7⟩
  have := q st hm cell h5
  rw [this] at h6
  cases h6
theorem own_plainE {Z : State} {h : Heap} {x : Addr} {C : String} (E : Exa Z h x C) : ∀ c : Cell, h[x]? = some c → c.vm.isStatics = false := by
  obtain ⟨cell, k, h1, h2, h3, h4, h5⟩ := E
  intro c hc
  rw [h1] at hc
  cases hc
  exact h4
theorem own_plainV {Z : State} {h : Heap} {a : Addr} {k : ClassId} {ty : FieldType} {z : Int32} {vs : List Value} {d : Value} (F : Arv Z h a k ty z vs d) : ∀ c : Cell, h[a]? = some c → c.vm.isStatics = false := by
  obtain ⟨cell, A, -⟩ := F
  intro c hc
  rw [A.1] at hc
  cases hc
  exact A.plain

theorem own_wS {Z : State} {a0 : Array Value} (hw : ∀ d ∈ tables_1, d.before a0 Z = true) : ∀ a ∈ Bundle.stringAtoms, a.before a0 Z = true := by
  intro a ha
  simp only [Bundle.stringAtoms, List.mem_cons, List.not_mem_nil, or_false] at ha
  rcases ha with rfl | rfl | rfl | rfl | rfl | rfl | rfl
  · exact (hw _ (own_m 7 rfl))
  · exact (hw _ (own_m 6 rfl))
  · exact (hw _ (own_m 23 rfl))
  · exact (hw _ (own_m 33 rfl))
  · exact (hw _ (own_m 31 rfl))
  · exact (hw _ (own_m 64 rfl))
  · exact (hw _ (own_m 65 rfl))
theorem own_nsRoot {Z : State} {a0 : Array Value} {O K : String} {n : Nat} (w : (Cond.noSuperclass O).before a0 Z = true) (wk : (Cond.instantiable K n).before a0 Z = true) (hn : O ≠ K) : NS Z O K := by
  obtain ⟨c, k, h1, h2, h3, -, -⟩ := Cond.noSuperclass_spec w
  obtain ⟨t, kt, g1, -⟩ := Cond.instantiable_spec wk
  have ne := ids_ne h1 g1 hn
  refine ⟨c, t, h1, g1, fun fuel => ?_⟩
  cases fuel with
  | zero => rfl
  | succ f => simp [Vm.isSubclassAux, ne, h2, h3]
theorem own_nsNo {Z : State} {a0 : Array Value} {C S K : String} {n : Nat} (w : (Cond.superclass C S).before a0 Z = true) (wk : (Cond.instantiable K n).before a0 Z = true) (q : NS Z C K) (hn : C ≠ K) : ∃ c t, Z.vm.findClass C = some c ∧ Z.vm.findClass K = some t ∧ Z.vm.assignable c t = false := by
  obtain ⟨c, t, h0, g0, n3⟩ := q
  obtain ⟨p, k, kp, h1, h2, h3, h4, h5, -, h7⟩ := Cond.superclass_spec h0 w
  obtain ⟨t', kt, g1, g2, g3, g4, -⟩ := Cond.instantiable_spec wk
  cases g0.symm.trans g1
  have g5 : kt.isInterface = false := by
    cases hi : kt.isInterface with
    | false => rfl
    | true => rw [hi] at g4; simp at g4
  have ne := ids_ne h0 g0 hn
  refine ⟨c, t, h0, g0, ?_⟩
  show Z.vm.assignableAux (255 + 1) c t = false
  simp [Vm.assignableAux, ne, h2, g2, h5, g3, g5, Vm.isSubclass, n3]
theorem own_ldcMir {p : Program} {l : Launch} {e : Env} {R : Room} {s : State} {m : MethodId} {args : Array Value} {below : List Frame} {meth : Method} {c : Code} {T Z : State} {locs : List Loc} {cells slots : Nat} {a0 : Array Value} {h : Heap} {mr : Addr} {own K : String} {index : Nat} (X : Stand p l e R s m args below meth c T locs cells slots) (hx : p.tables.exec = Jvm.exec) (hZ : Z.Warmed39 s.vm) (hown : s.vm.findClass own = some m.cls) (w : (Cond.classLink own index K).before a0 Z = true) (eT : T.heap = h) (M : Mir Z K mr)
    {g : JFrame} (hg : g.method = m) (hd : decode c.code g.pc = .ok (.ldc index, 2)) : ∃ T', Stand p l e R s m args below meth c T' locs cells slots ∧ T'.heap = h ∧ ∀ target, Steps p.tables e below (T'.setTop { g with pc := g.pc + 2, stack := .ref mr :: g.stack }) target → Steps p.tables e below (T.setTop g) target := by
  obtain ⟨cc, k, m1, m2, m3, -⟩ := M
  obtain ⟨k', q, ek⟩ := hZ.alike.2.2 _ _ m2
  have f1 : s.vm.findClass K = some cc := by rw [hZ.alike.findClass]; exact m1
  have f3 : k'.mirror = some mr := by rw [ek]; exact m3
  obtain ⟨vm', X', st⟩ := X.ldcMirror hx hown (mvT hZ w) (C := K) (a := mr) (by simp [Term.eval, f1, q, f3]) hg hd
  exact ⟨_, X', eT, st⟩
theorem own_mvNM {Z s : State} {a0 args : Array Value} {own host : String} {y : MethodName} {index : Nat} (hZ : Z.Warmed39 s.vm) (w : (Cond.methodLinkNest own index y host).before a0 Z = true) : (Cond.methodLinkNest own index y host).before args s = true := (Cond.methodLinkNest_wide hZ w :)
theorem own_small {e : Int32} {n : Nat} (h0 : 0 ≤ e.toInt) (hn : e.toInt < n) : ∃ k : Nat, k < n ∧ e = Int32.ofNat k := by
  refine ⟨e.toInt.toNat, by omega, ?_⟩
  apply Int32.toInt_inj.mp
  have hb := e.toInt_lt
  rw [Int32.toInt_ofNat_of_lt (by omega)]
  omega
theorem own_mask {x m : Int32} {n : Nat} (hm : 0 ≤ m.toInt) (hn : m.toInt < n) : ∃ k : Nat, k < n ∧ (x &&& m) = Int32.ofNat k := by
  have h := c_and x m hm
  exact own_small h.1 (by omega)
theorem own_modm {x y : Int32} {d : Int} {n : Nat} (hy : y.toInt = d) (hd : 0 < d) (hn : d ≤ n) : ∃ k : Nat, k < n ∧ ((x &&& (2147483647 : Int32)) % y) = Int32.ofNat k := by
  have h := c_and x 2147483647 (by decide)
  have h2 := (c_irem (x &&& 2147483647) y d hy).1 h.1
  refine own_small ?_ ?_ <;> rw [h2]
  · exact Int.emod_nonneg _ (by omega)
  · have := Int.emod_lt_of_pos (x &&& 2147483647).toInt hd
    omega

theorem own_char (x : Int32) : ¬ ((255 : Int32) < ((x &&& (255 : Int32)).toUInt32.toUInt16.toUInt32.toInt32)) := by
  rw [i2c_mask, Int32.lt_iff_toInt_lt]
  have h := (c_and x 255 (by decide)).2
  exact Int.not_lt.mpr h
theorem own_charN (x : Int32) : ¬ ((255 : Int32) < nar .char ((x &&& (255 : Int32)).toUInt32.toUInt16.toUInt32.toInt32)) := by
  rw [i2c_mask]
  exact own_char x
theorem own_line (x : Int32) : ¬ ((x &&& (127 : Int32)) + (1 : Int32) < (1 : Int32)) := by
  have h := c_and x 127 (by decide)
  have h1 := c_iadd (x &&& (127 : Int32)) 1
  have h2 := rng32 ((x &&& (127 : Int32)) + (1 : Int32))
  have e1 : (1 : Int32).toInt = 1 := rfl
  have e2 : (127 : Int32).toInt = 127 := rfl
  rw [Int32.lt_iff_toInt_lt]
  omega
theorem own_rem (x y : Int32) (d : Int) (hy : y.toInt = d) (hd : 0 < d) : 0 ≤ ((x &&& (255 : Int32)) % y).toInt ∧ ((x &&& (255 : Int32)) % y).toInt < d := by
  have h := c_and x 255 (by decide)
  have q := (c_iremV (x &&& (255 : Int32)) y).1 h.1 (by omega)
  omega
theorem own_nz {y : Int32} {d : Int} (hy : y.toInt = d) (hd : 0 < d) : y ≠ 0 := by
  intro q
  rw [q] at hy
  have e0 : (0 : Int32).toInt = 0 := rfl
  omega
theorem own_lt {x y : Int32} (h : y.toInt ≤ x.toInt) : ¬ (x < y) := by rw [Int32.lt_iff_toInt_lt]; omega
theorem own_d1 (n fr : Int32) (k : Int) (hn : n.toInt = k) (h0 : 0 ≤ fr.toInt) (h1 : fr.toInt ≤ k) (hk : k < 100) : ((n - fr) + (1 : Int32)).toInt = k - fr.toInt + 1 := by
  have a := c_isub n fr
  have b := c_iadd (n - fr) 1
  have r0 := rng32 n
  have r1 := rng32 (n - fr)
  have r2 := rng32 ((n - fr) + (1 : Int32))
  have e1 : (1 : Int32).toInt = 1 := rfl
  omega
theorem own_ad1 (n : Int32) (h0 : 0 ≤ n.toInt) (h1 : n.toInt ≤ 3) : (n + (1 : Int32)).toInt = n.toInt + 1 := by
  have a := c_iadd n 1
  have r1 := rng32 (n + (1 : Int32))
  have e1 : (1 : Int32).toInt = 1 := rfl
  omega
theorem own_ad (x y : Int32) (h0 : 0 ≤ x.toInt) (h1 : 0 ≤ y.toInt) (h2 : x.toInt + y.toInt < 100) : (x + y).toInt = x.toInt + y.toInt ∧ ((x + y) - x).toInt = y.toInt ∧ (((x + y) - x) + (1 : Int32)).toInt = y.toInt + 1 := by
  have a := c_iadd x y
  have b := c_isub (x + y) x
  have c := c_iadd ((x + y) - x) 1
  have r1 := rng32 (x + y)
  have r2 := rng32 ((x + y) - x)
  have r3 := rng32 (((x + y) - x) + (1 : Int32))
  have e1 : (1 : Int32).toInt = 1 := rfl
  omega
theorem own_pn0 : plainName "java/lang/StringUTF16" = true := by first | (simp [plainName, overriddenIn]; done) | decide +kernel
theorem own_d6_0 : decode jdk_52_method_21_code 0 = .ok (.iconst 0, 1) := by decide +kernel
theorem own_d6_1 : decode jdk_52_method_21_code 1 = .ok (.istore 5, 2) := by decide +kernel
theorem own_d6_3 : decode jdk_52_method_21_code 3 = .ok (.iload 5, 2) := by decide +kernel
theorem own_d6_5 : decode jdk_52_method_21_code 5 = .ok (.iload 4, 2) := by decide +kernel
theorem own_d6_7 : decode jdk_52_method_21_code 7 = .ok (.if_icmp .ge 37, 3) := by decide +kernel
theorem own_d6_10 : decode jdk_52_method_21_code 10 = .ok (.aload_n 0, 1) := by decide +kernel
theorem own_d6_11 : decode jdk_52_method_21_code 11 = .ok (.iload_n 1, 1) := by decide +kernel
theorem own_d6_12 : decode jdk_52_method_21_code 12 = .ok (.caload, 1) := by decide +kernel
theorem own_d6_13 : decode jdk_52_method_21_code 13 = .ok (.istore 6, 2) := by decide +kernel
theorem own_d6_15 : decode jdk_52_method_21_code 15 = .ok (.iload 6, 2) := by decide +kernel
theorem own_d6_17 : decode jdk_52_method_21_code 17 = .ok (.sipush 255, 3) := by decide +kernel
theorem own_d6_20 : decode jdk_52_method_21_code 20 = .ok (.if_icmp .le 6, 3) := by decide +kernel
theorem own_d6_26 : decode jdk_52_method_21_code 26 = .ok (.aload_n 2, 1) := by decide +kernel
theorem own_d6_27 : decode jdk_52_method_21_code 27 = .ok (.iload_n 3, 1) := by decide +kernel
theorem own_d6_28 : decode jdk_52_method_21_code 28 = .ok (.iload 6, 2) := by decide +kernel
theorem own_d6_30 : decode jdk_52_method_21_code 30 = .ok (.i2b, 1) := by decide +kernel
theorem own_d6_31 : decode jdk_52_method_21_code 31 = .ok (.bastore, 1) := by decide +kernel
theorem own_d6_32 : decode jdk_52_method_21_code 32 = .ok (.iinc 1 1, 3) := by decide +kernel
theorem own_d6_35 : decode jdk_52_method_21_code 35 = .ok (.iinc 3 1, 3) := by decide +kernel
theorem own_d6_38 : decode jdk_52_method_21_code 38 = .ok (.iinc 5 1, 3) := by decide +kernel
theorem own_d6_41 : decode jdk_52_method_21_code 41 = .ok (.goto (-38), 3) := by decide +kernel
theorem own_d6_44 : decode jdk_52_method_21_code 44 = .ok (.iload 4, 2) := by decide +kernel
theorem own_d6_46 : decode jdk_52_method_21_code 46 = .ok (.ireturn, 1) := by decide +kernel
theorem own_ef_6n1 (m : MethodId) (x0 : Addr) (x1 : Int32) (x2 : Addr) (x3 : Int32) (x4 : Int32) : entryFrame m #[(.ref x0), (.int x1), (.ref x2), (.int x3), (.int x4)] 7 = mkF m 0 #[.val (.ref x0), .val (.int x1), .val (.ref x2), .val (.int x3), .val (.int x4), .unset, .unset] [] := by first | (simp [entryFrame, mkF, argsToLocals, Value.category]; done) | rfl
def Q6n1 (Z : State) (r0 : Addr) (r2 : Addr) (kc : ClassId) (c0 : Int32) (kb : ClassId) (h0 : Heap) (n0 : Nat) (v : Option Value) (h : Heap) (L : List Loc) : Prop := v = some (.int (1 : Int32)) ∧ Fr n0 L ∧ Keep h0 h [r2] ∧ Arv Z h r2 kb .byte (1 : Int32) [(.int (c0.toInt8.toInt32).toInt8.toInt32)] (.int (0 : Int32))
set_option maxRecDepth 65536 in
set_option maxHeartbeats 40000000 in
theorem rm6n1 (l : Launch) (Z : State) (a0 : Array Value) (hw : ∀ d ∈ tables_1, d.before a0 Z = true) (ws : List Jvm.Cond) (r0 : Addr) (r2 : Addr) (kc : ClassId) (c0 : Int32) (kb : ClassId) (h0 : Heap) (n0 : Nat) (Z0 : n0 ≤ h0.size) (VC : Arv Z h0 r0 kc .char (1 : Int32) [(.int c0)] (.int (0 : Int32))) (VB : Arv Z h0 r2 kb .byte (1 : Int32) [(.int (0 : Int32))] (.int (0 : Int32))) (g2 : n0 ≤ r2) (hne : r0 ≠ r2) (hle0 : ¬ ((255 : Int32) < c0)) :
    MetFree l (⟨"java/lang/StringUTF16", "compress", "([CI[BII)I"⟩ : MethodName) (head1 (Jvm.Cond.code (⟨"java/lang/StringUTF16", "compress", "([CI[BII)I"⟩ : MethodName) jdk_52_method_21_code 7 (some .int) :: ws) ({ frames := 0, cells := 0, slots := 0, locals := 0 } : Room)) (fun a U => a = #[(.ref r0), (.int (0 : Int32)), (.ref r2), (.int (0 : Int32)), (.int (1 : Int32))] ∧ Z.Warmed39 U.vm ∧ U.heap = h0) (fun _ _ _ _ _ => True) (fun _ U o U' => ∃ v L, o = .returned v ∧ Q6n1 Z r0 r2 kc c0 kb h0 n0 v U'.heap L ∧ FrameEnd U o U' L ({ frames := 0, cells := 0, slots := 0, locals := 0 } : Room).cells ({ frames := 0, cells := 0, slots := 0, locals := 0 } : Room).slots) := by
  refine MetFree.of_bodySF (plainFor_of_name own_pn0) hisR ?_
  intro p e s m args below meth c s₁ Bd hml0 hP hK
  obtain ⟨rfl, hZ, hh⟩ := hP
  have hx := Bd.exec
  have hby := Bd.bytes
  have hml : c.maxLocals = 7 := hml0
  have hown : s.vm.findClass "java/lang/StringUTF16" = some m.cls := findClass_of_methodNamed Bd.named
  have hnm := (name_of_methodNamed Bd.named Bd.method).1
  have X0 : Stand p l e ({ frames := 0, cells := 0, slots := 0, locals := 0 } : Room) s m #[(.ref r0), (.int (0 : Int32)), (.ref r2), (.int (0 : Int32)), (.int (1 : Int32))] below meth c s₁ [] 0 0 := Stand.of_body Bd
  have e0 : s₁.heap = h0 := by rw [← hh, Bd.state]; rfl
  have N0 := Fr.nil n0
  have KR : Keep h0 h0 [r2] := Keep.refl h0 _
  show Good p e below (fun o U' => ∃ v L, o = .returned v ∧ Q6n1 Z r0 r2 kc c0 kb h0 n0 v U'.heap L ∧ FrameEnd s o U' L ({ frames := 0, cells := 0, slots := 0, locals := 0 } : Room).cells ({ frames := 0, cells := 0, slots := 0, locals := 0 } : Room).slots) _
  refine Good.back (S' := s₁.setTop (mkF m 0 #[.val (.ref r0), .val (.int (0 : Int32)), .val (.ref r2), .val (.int (0 : Int32)), .val (.int (1 : Int32)), .unset, .unset] [])) (fun t k => castTop (own_ef_6n1 m r0 (0 : Int32) r2 (0 : Int32) (1 : Int32)) k) ?_
  show Good p e below _ (s₁.setTop (mkF m 0 #[.val (.ref r0), .val (.int (0 : Int32)), .val (.ref r2), .val (.int (0 : Int32)), .val (.int (1 : Int32)), .unset, .unset] []))
  refine Good.back (fun _ k => XS.iconst X0.here hx rfl (hb hby own_d6_0) k) ?_
  show Good p e below _ (s₁.setTop (mkF m 1 #[.val (.ref r0), .val (.int (0 : Int32)), .val (.ref r2), .val (.int (0 : Int32)), .val (.int (1 : Int32)), .unset, .unset] [(.int (0 : Int32))]))
  refine Good.back (fun _ k => XS.istore X0.here hx rfl (hb hby own_d6_1) rfl (l' := #[.val (.ref r0), .val (.int (0 : Int32)), .val (.ref r2), .val (.int (0 : Int32)), .val (.int (1 : Int32)), .val (.int (0 : Int32)), .unset]) rfl k) ?_
  refine Good.back (fun _ k => XS.iload X0.here hx rfl (hb hby own_d6_3) rfl k) ?_
  refine Good.back (fun _ k => XS.iload X0.here hx rfl (hb hby own_d6_5) rfl k) ?_
  show Good p e below _ (s₁.setTop (mkF m 7 #[.val (.ref r0), .val (.int (0 : Int32)), .val (.ref r2), .val (.int (0 : Int32)), .val (.int (1 : Int32)), .val (.int (0 : Int32)), .unset] [(.int (1 : Int32)), (.int (0 : Int32))]))
  refine Good.back (fun _ k => XS.icmpNo X0.here hx rfl (hb hby own_d6_7) rfl (tlt (by decide : ((0 : Int32) < (1 : Int32)))).2.1 k) ?_
  show Good p e below _ (s₁.setTop (mkF m 10 #[.val (.ref r0), .val (.int (0 : Int32)), .val (.ref r2), .val (.int (0 : Int32)), .val (.int (1 : Int32)), .val (.int (0 : Int32)), .unset] []))
  refine Good.back (fun _ k => XS.aloadN X0.here hx rfl (hb hby own_d6_10) rfl rfl k) ?_
  refine Good.back (fun _ k => XS.iloadN X0.here hx rfl (hb hby own_d6_11) rfl k) ?_
  have fc1 := VC
  obtain ⟨cl1, Ar1, qk1, S1, N1', H1, G1⟩ := fc1
  have hin1 : ¬ ((0 : Int32) < 0 ∨ cl1.slots.size ≤ ((0 : Int32)).toNatClampNeg) := inb_of S1 ⟨by decide, by decide⟩
  have hat1 : cl1.slots[((0 : Int32)).toNatClampNeg]? = some (.int c0) := Has.at H1 hin1 rfl
  refine Good.back (X0.caload hx (j := (0 : Int32)) (v := (.int c0)) (by rw [e0]; exact Ar1.1) (State.isArrayOf_alike hZ.alike Ar1.2.1) Ar1.2.2 hin1 hat1 (g := (mkF m 12 #[.val (.ref r0), .val (.int (0 : Int32)), .val (.ref r2), .val (.int (0 : Int32)), .val (.int (1 : Int32)), .val (.int (0 : Int32)), .unset] [(.int (0 : Int32)), (.ref r0)])) rfl rfl (hb hby own_d6_12)) ?_
  show Good p e below _ (s₁.setTop (mkF m 13 #[.val (.ref r0), .val (.int (0 : Int32)), .val (.ref r2), .val (.int (0 : Int32)), .val (.int (1 : Int32)), .val (.int (0 : Int32)), .unset] [(.int c0)]))
  refine Good.back (fun _ k => XS.istore X0.here hx rfl (hb hby own_d6_13) rfl (l' := #[.val (.ref r0), .val (.int (0 : Int32)), .val (.ref r2), .val (.int (0 : Int32)), .val (.int (1 : Int32)), .val (.int (0 : Int32)), .val (.int c0)]) rfl k) ?_
  refine Good.back (fun _ k => XS.iload X0.here hx rfl (hb hby own_d6_15) rfl k) ?_
  refine Good.back (fun _ k => XS.sipush X0.here hx rfl (hb hby own_d6_17) k) ?_
  show Good p e below _ (s₁.setTop (mkF m 20 #[.val (.ref r0), .val (.int (0 : Int32)), .val (.ref r2), .val (.int (0 : Int32)), .val (.int (1 : Int32)), .val (.int (0 : Int32)), .val (.int c0)] [(.int (255 : Int32)), (.int c0)]))
  refine Good.back (fun _ k => XS.icmpYes X0.here hx rfl (pc0 := 20) (pc' := 26) rfl (hb hby own_d6_20) rfl (flt hle0).2.2.2 (by decide) (by decide) k) ?_
  show Good p e below _ (s₁.setTop (mkF m 26 #[.val (.ref r0), .val (.int (0 : Int32)), .val (.ref r2), .val (.int (0 : Int32)), .val (.int (1 : Int32)), .val (.int (0 : Int32)), .val (.int c0)] []))
  refine Good.back (fun _ k => XS.aloadN X0.here hx rfl (hb hby own_d6_26) rfl rfl k) ?_
  refine Good.back (fun _ k => XS.iloadN X0.here hx rfl (hb hby own_d6_27) rfl k) ?_
  refine Good.back (fun _ k => XS.iload X0.here hx rfl (hb hby own_d6_28) rfl k) ?_
  show Good p e below _ (s₁.setTop (mkF m 30 #[.val (.ref r0), .val (.int (0 : Int32)), .val (.ref r2), .val (.int (0 : Int32)), .val (.int (1 : Int32)), .val (.int (0 : Int32)), .val (.int c0)] [(.int c0), (.int (0 : Int32)), (.ref r2)]))
  refine Good.back (fun _ k => XS.i2b X0.here hx rfl (hb hby own_d6_30) rfl k) ?_
  show Good p e below _ (s₁.setTop (mkF m 31 #[.val (.ref r0), .val (.int (0 : Int32)), .val (.ref r2), .val (.int (0 : Int32)), .val (.int (1 : Int32)), .val (.int (0 : Int32)), .val (.int c0)] [(.int (c0.toInt8.toInt32)), (.int (0 : Int32)), (.ref r2)]))
  have fc2 := VB
  obtain ⟨cl2, Ar2, qk2, S2, N2', H2, G2⟩ := fc2
  have hin2 : ¬ ((0 : Int32) < 0 ∨ cl2.slots.size ≤ ((0 : Int32)).toNatClampNeg) := inb_of S2 ⟨by decide, by decide⟩
  obtain ⟨T2, h2, X2, e2, W2, st2⟩ := stB X0 hx hZ e0 Ar2 (j := (0 : Int32)) hin2 (g := (mkF m 31 #[.val (.ref r0), .val (.int (0 : Int32)), .val (.ref r2), .val (.int (0 : Int32)), .val (.int (1 : Int32)), .val (.int (0 : Int32)), .val (.int c0)] [(.int (c0.toInt8.toInt32)), (.int (0 : Int32)), (.ref r2)])) rfl rfl (hb hby own_d6_31)
  refine Good.back st2 ?_
  have f_3 : Arv Z h2 r2 kb .byte (1 : Int32) [(.int (c0.toInt8.toInt32).toInt8.toInt32)] (.int (0 : Int32)) := Arv.set Ar2 qk2 S2 N2' H2 G2 (fits_nar_byte _) W2 0 rfl (Nat.le_of_ble_eq_true rfl)
  have N2 := Fr.snoc X2 N0 g2
  have Z4 : n0 ≤ h2.size := Nat.le_trans Z0 (Keep.of_wr W2).1
  have K5 : Keep h0 h2 [r2] := KR.wr W2 (Or.inl (List.mem_of_getElem? (i := 0) rfl))
  show Good p e below _ (T2.setTop (mkF m 32 #[.val (.ref r0), .val (.int (0 : Int32)), .val (.ref r2), .val (.int (0 : Int32)), .val (.int (1 : Int32)), .val (.int (0 : Int32)), .val (.int c0)] []))
  refine Good.back (fun _ k => XS.iinc X2.here hx rfl (hb hby own_d6_32) rfl (l' := #[.val (.ref r0), .val (.int ((0 : Int32) + (1 : Int32))), .val (.ref r2), .val (.int (0 : Int32)), .val (.int (1 : Int32)), .val (.int (0 : Int32)), .val (.int c0)]) rfl k) ?_
  show Good p e below _ (T2.setTop (mkF m 35 #[.val (.ref r0), .val (.int ((0 : Int32) + (1 : Int32))), .val (.ref r2), .val (.int (0 : Int32)), .val (.int (1 : Int32)), .val (.int (0 : Int32)), .val (.int c0)] []))
  rw [show (((0 : Int32) + (1 : Int32)) : Int32) = (1 : Int32) from by decide]
  show Good p e below _ (T2.setTop (mkF m 35 #[.val (.ref r0), .val (.int (1 : Int32)), .val (.ref r2), .val (.int (0 : Int32)), .val (.int (1 : Int32)), .val (.int (0 : Int32)), .val (.int c0)] []))
  refine Good.back (fun _ k => XS.iinc X2.here hx rfl (hb hby own_d6_35) rfl (l' := #[.val (.ref r0), .val (.int (1 : Int32)), .val (.ref r2), .val (.int ((0 : Int32) + (1 : Int32))), .val (.int (1 : Int32)), .val (.int (0 : Int32)), .val (.int c0)]) rfl k) ?_
  show Good p e below _ (T2.setTop (mkF m 38 #[.val (.ref r0), .val (.int (1 : Int32)), .val (.ref r2), .val (.int ((0 : Int32) + (1 : Int32))), .val (.int (1 : Int32)), .val (.int (0 : Int32)), .val (.int c0)] []))
  rw [show (((0 : Int32) + (1 : Int32)) : Int32) = (1 : Int32) from by decide]
  show Good p e below _ (T2.setTop (mkF m 38 #[.val (.ref r0), .val (.int (1 : Int32)), .val (.ref r2), .val (.int (1 : Int32)), .val (.int (1 : Int32)), .val (.int (0 : Int32)), .val (.int c0)] []))
  refine Good.back (fun _ k => XS.iinc X2.here hx rfl (hb hby own_d6_38) rfl (l' := #[.val (.ref r0), .val (.int (1 : Int32)), .val (.ref r2), .val (.int (1 : Int32)), .val (.int (1 : Int32)), .val (.int ((0 : Int32) + (1 : Int32))), .val (.int c0)]) rfl k) ?_
  show Good p e below _ (T2.setTop (mkF m 41 #[.val (.ref r0), .val (.int (1 : Int32)), .val (.ref r2), .val (.int (1 : Int32)), .val (.int (1 : Int32)), .val (.int ((0 : Int32) + (1 : Int32))), .val (.int c0)] []))
  rw [show (((0 : Int32) + (1 : Int32)) : Int32) = (1 : Int32) from by decide]
  show Good p e below _ (T2.setTop (mkF m 41 #[.val (.ref r0), .val (.int (1 : Int32)), .val (.ref r2), .val (.int (1 : Int32)), .val (.int (1 : Int32)), .val (.int (1 : Int32)), .val (.int c0)] []))
  refine Good.back (fun _ k => XS.goto X2.here hx rfl (pc0 := 41) (pc' := 3) rfl (hb hby own_d6_41) (by decide) (by decide) k) ?_
  refine Good.back (fun _ k => XS.iload X2.here hx rfl (hb hby own_d6_3) rfl k) ?_
  refine Good.back (fun _ k => XS.iload X2.here hx rfl (hb hby own_d6_5) rfl k) ?_
  show Good p e below _ (T2.setTop (mkF m 7 #[.val (.ref r0), .val (.int (1 : Int32)), .val (.ref r2), .val (.int (1 : Int32)), .val (.int (1 : Int32)), .val (.int (1 : Int32)), .val (.int c0)] [(.int (1 : Int32)), (.int (1 : Int32))]))
  refine Good.back (fun _ k => XS.icmpYes X2.here hx rfl (pc0 := 7) (pc' := 44) rfl (hb hby own_d6_7) rfl (flt (by decide : ¬ ((1 : Int32) < (1 : Int32)))).2.1 (by decide) (by decide) k) ?_
  show Good p e below _ (T2.setTop (mkF m 44 #[.val (.ref r0), .val (.int (1 : Int32)), .val (.ref r2), .val (.int (1 : Int32)), .val (.int (1 : Int32)), .val (.int (1 : Int32)), .val (.int c0)] []))
  refine Good.back (fun _ k => XS.iload X2.here hx rfl (hb hby own_d6_44) rfl k) ?_
  show Good p e below _ (T2.setTop (mkF m 46 #[.val (.ref r0), .val (.int (1 : Int32)), .val (.ref r2), .val (.int (1 : Int32)), .val (.int (1 : Int32)), .val (.int (1 : Int32)), .val (.int c0)] [(.int (1 : Int32))]))
  obtain ⟨fs6, hr6, hrun6, hended6, hW6, hsame6⟩ := X2.leave (v := some (.int (1 : Int32))) (fun h => by rw [Bd.returns] at h; cases h)
  refine Good.done (retI X2 hx Bd.returns (hb hby own_d6_46) hr6) hrun6 hended6 ⟨_, _, rfl, ?_, ⟨_, rfl⟩, hW6, hsame6.mono (by decide) (by decide)⟩
  show Q6n1 Z r0 r2 kc c0 kb h0 n0 _ T2.heap _
  rw [e2]
  exact ⟨rfl, N2, K5, f_3⟩
theorem own_pd23 : parseMethodDescriptor "([CI[BII)I" = some ⟨[(.array .char), .int, (.array .byte), .int, .int], some .int⟩ := by decide +kernel
theorem own_d5_0 : decode jdk_52_method_16_code 0 = .ok (.iload_n 2, 1) := by decide +kernel
theorem own_d5_1 : decode jdk_52_method_16_code 1 = .ok (.newarray .byte, 2) := by decide +kernel
theorem own_d5_3 : decode jdk_52_method_16_code 3 = .ok (.astore_n 3, 1) := by decide +kernel
theorem own_d5_4 : decode jdk_52_method_16_code 4 = .ok (.aload_n 0, 1) := by decide +kernel
theorem own_d5_5 : decode jdk_52_method_16_code 5 = .ok (.iload_n 1, 1) := by decide +kernel
theorem own_d5_6 : decode jdk_52_method_16_code 6 = .ok (.aload_n 3, 1) := by decide +kernel
theorem own_d5_7 : decode jdk_52_method_16_code 7 = .ok (.iconst 0, 1) := by decide +kernel
theorem own_d5_8 : decode jdk_52_method_16_code 8 = .ok (.iload_n 2, 1) := by decide +kernel
theorem own_d5_9 : decode jdk_52_method_16_code 9 = .ok (.invokestatic 115, 3) := by decide +kernel
theorem own_d5_12 : decode jdk_52_method_16_code 12 = .ok (.istore 4, 2) := by decide +kernel
theorem own_d5_14 : decode jdk_52_method_16_code 14 = .ok (.iload 4, 2) := by decide +kernel
theorem own_d5_16 : decode jdk_52_method_16_code 16 = .ok (.iload_n 2, 1) := by decide +kernel
theorem own_d5_17 : decode jdk_52_method_16_code 17 = .ok (.if_icmp .eq 40, 3) := by decide +kernel
theorem own_d5_57 : decode jdk_52_method_16_code 57 = .ok (.aload_n 3, 1) := by decide +kernel
theorem own_d5_58 : decode jdk_52_method_16_code 58 = .ok (.areturn, 1) := by decide +kernel
theorem own_ef_5n1 (m : MethodId) (x0 : Addr) (x1 : Int32) (x2 : Int32) : entryFrame m #[(.ref x0), (.int x1), (.int x2)] 6 = mkF m 0 #[.val (.ref x0), .val (.int x1), .val (.int x2), .unset, .unset, .unset] [] := by first | (simp [entryFrame, mkF, argsToLocals, Value.category]; done) | rfl
def Q5n1 (Z : State) (r0 : Addr) (kc : ClassId) (c0 : Int32) (h0 : Heap) (n0 : Nat) (v : Option Value) (h : Heap) (L : List Loc) : Prop := ∃ (ar : Addr) (kb : ClassId), v = some (.ref ar) ∧ Fr n0 L ∧ Keep h0 h [] ∧ h0.size ≤ ar ∧ Arv Z h ar kb .byte (1 : Int32) [(.int (c0.toInt8.toInt32).toInt8.toInt32)] (.int (0 : Int32)) ∧ Exa Z h ar "[B"
set_option maxRecDepth 65536 in
set_option maxHeartbeats 40000000 in
theorem rm5n1 (l : Launch) (Z : State) (a0 : Array Value) (hw : ∀ d ∈ tables_1, d.before a0 Z = true) (ws : List Jvm.Cond) (r0 : Addr) (kc : ClassId) (c0 : Int32) (h0 : Heap) (n0 : Nat) (Z0 : n0 ≤ h0.size) (VC : Arv Z h0 r0 kc .char (1 : Int32) [(.int c0)] (.int (0 : Int32))) (hle0 : ¬ ((255 : Int32) < c0)) :
    MetFree l (⟨"java/lang/StringUTF16", "compress", "([CII)[B"⟩ : MethodName) (head1 (Jvm.Cond.code (⟨"java/lang/StringUTF16", "compress", "([CII)[B"⟩ : MethodName) jdk_52_method_16_code 6 (some (.array .byte)) :: ws) ({ frames := 1, cells := 1, slots := 1, locals := 18 } : Room)) (fun a U => a = #[(.ref r0), (.int (0 : Int32)), (.int (1 : Int32))] ∧ Z.Warmed39 U.vm ∧ U.heap = h0) (fun _ _ _ _ _ => True) (fun _ U o U' => ∃ v L, o = .returned v ∧ Q5n1 Z r0 kc c0 h0 n0 v U'.heap L ∧ FrameEnd U o U' L ({ frames := 1, cells := 1, slots := 1, locals := 18 } : Room).cells ({ frames := 1, cells := 1, slots := 1, locals := 18 } : Room).slots) := by
  refine MetFree.of_bodySF (plainFor_of_name own_pn0) hisR ?_
  intro p e s m args below meth c s₁ Bd hml0 hP hK
  obtain ⟨rfl, hZ, hh⟩ := hP
  have hx := Bd.exec
  have hby := Bd.bytes
  have hml : c.maxLocals = 6 := hml0
  have hown : s.vm.findClass "java/lang/StringUTF16" = some m.cls := findClass_of_methodNamed Bd.named
  have hnm := (name_of_methodNamed Bd.named Bd.method).1
  have X0 : Stand p l e ({ frames := 1, cells := 1, slots := 1, locals := 18 } : Room) s m #[(.ref r0), (.int (0 : Int32)), (.int (1 : Int32))] below meth c s₁ [] 0 0 := Stand.of_body Bd
  have e0 : s₁.heap = h0 := by rw [← hh, Bd.state]; rfl
  have N0 := Fr.nil n0
  have KR : Keep h0 h0 [] := Keep.refl h0 _
  show Good p e below (fun o U' => ∃ v L, o = .returned v ∧ Q5n1 Z r0 kc c0 h0 n0 v U'.heap L ∧ FrameEnd s o U' L ({ frames := 1, cells := 1, slots := 1, locals := 18 } : Room).cells ({ frames := 1, cells := 1, slots := 1, locals := 18 } : Room).slots) _
  refine Good.back (S' := s₁.setTop (mkF m 0 #[.val (.ref r0), .val (.int (0 : Int32)), .val (.int (1 : Int32)), .unset, .unset, .unset] [])) (fun t k => castTop (own_ef_5n1 m r0 (0 : Int32) (1 : Int32)) k) ?_
  show Good p e below _ (s₁.setTop (mkF m 0 #[.val (.ref r0), .val (.int (0 : Int32)), .val (.int (1 : Int32)), .unset, .unset, .unset] []))
  refine Good.back (fun _ k => XS.iloadN X0.here hx rfl (hb hby own_d5_0) rfl k) ?_
  obtain ⟨T1, h1, k1, X1, e1, E1, A1, B1, st1⟩ := newPE X0 hx hZ (hw _ (own_m 23 rfl)) e0 (g := (mkF m 1 #[.val (.ref r0), .val (.int (0 : Int32)), .val (.int (1 : Int32)), .unset, .unset, .unset] [(.int (1 : Int32))])) rfl (hb hby own_d5_1) rfl (by decide) (cap := 1) (by decide) (by decide) (by decide) (by decide) (ad := "[B") (by decide +kernel)
  obtain ⟨b1, g1⟩ : ∃ z, z = h0.size := ⟨_, rfl⟩
  rw [← g1] at A1 B1 st1
  refine Good.back st1 ?_
  have g_b1 : n0 ≤ b1 := Nat.le_trans Z0 (Nat.le_of_eq g1.symm)
  have sz_b1 : h0.size ≤ b1 := Nat.le_trans KR.1 (Nat.le_of_eq g1.symm)
  have Z2 : n0 ≤ h1.size := Nat.le_trans Z0 E1.1
  have K3 : Keep h0 h1 [] := KR.ext E1
  have f_4 : Exa Z h1 b1 "[B" := B1
  have f_5 : Arv Z h1 b1 k1 .byte (1 : Int32) [(.int (0 : Int32))] (.int (0 : Int32)) := (Arv.new A1 (by decide)).pad (pad_rep [] (.int (0 : Int32)) 1)
  show Good p e below _ (T1.setTop (mkF m 3 #[.val (.ref r0), .val (.int (0 : Int32)), .val (.int (1 : Int32)), .unset, .unset, .unset] [(.ref b1)]))
  refine Good.back (fun _ k => XS.astoreN X1.here hx rfl (hb hby own_d5_3) rfl rfl (l' := #[.val (.ref r0), .val (.int (0 : Int32)), .val (.int (1 : Int32)), .val (.ref b1), .unset, .unset]) rfl k) ?_
  refine Good.back (fun _ k => XS.aloadN X1.here hx rfl (hb hby own_d5_4) rfl rfl k) ?_
  refine Good.back (fun _ k => XS.iloadN X1.here hx rfl (hb hby own_d5_5) rfl k) ?_
  refine Good.back (fun _ k => XS.aloadN X1.here hx rfl (hb hby own_d5_6) rfl rfl k) ?_
  refine Good.back (fun _ k => XS.iconst X1.here hx rfl (hb hby own_d5_7) k) ?_
  show Good p e below _ (T1.setTop (mkF m 8 #[.val (.ref r0), .val (.int (0 : Int32)), .val (.int (1 : Int32)), .val (.ref b1), .unset, .unset] [(.int (0 : Int32)), (.ref b1), (.int (0 : Int32)), (.ref r0)]))
  refine Good.back (fun _ k => XS.iloadN X1.here hx rfl (hb hby own_d5_8) rfl k) ?_
  have f_7 : Arv Z h1 r0 kc .char (1 : Int32) [(.int c0)] (.int (0 : Int32)) := Arv.ext VC E1
  have ne_r0_b1_8 : r0 ≠ b1 := Nat.ne_of_lt (Nat.lt_of_lt_of_le VC.lt (Nat.le_of_eq g1.symm))
  obtain ⟨_, _, ⟨T6, L6, k6, n6⟩, -, X6, ⟨Lc6, hQ6, l6, y6, z6⟩, st6⟩ := Jvm.LawKit.callS X1 hx (y := (⟨"java/lang/StringUTF16", "compress", "([CI[BII)I"⟩ : MethodName)) hown (mvT hZ (hw _ (own_m 24 rfl))) (mvT hZ (hw _ (own_m 25 rfl))) (mvT hZ (hw _ (own_m 21 rfl))) (mvT hZ (hw _ (own_m 26 rfl))) (by decide) (backOf (W := 0) (rm6n1 l Z a0 hw [] r0 b1 kc c0 k1 h1 n0 Z2 f_7 f_5 g_b1 ne_r0_b1_8 (by first | assumption | decide)) hZ (hw _ (own_m 26 rfl)) (hw _ (own_m 21 rfl)) (by decide) (by decide)) (g := (mkF m 9 #[.val (.ref r0), .val (.int (0 : Int32)), .val (.int (1 : Int32)), .val (.ref b1), .unset, .unset] [(.int (1 : Int32)), (.int (0 : Int32)), (.ref b1), (.int (0 : Int32)), (.ref r0)])) rfl (by rw [hml]; rfl) (argsL := [(.ref r0), (.int (0 : Int32)), (.ref b1), (.int (0 : Int32)), (.int (1 : Int32))]) (rest := []) (lenOf own_pd23 rfl) rfl (by show 2 * 0 + _ ≤ _; exact Nat.le_of_eq rfl) (hb hby own_d5_9) (fun _ _ => ⟨rfl, e1, (by decide : 1 + 0 ≤ _), (by decide : 1 + 0 ≤ _)⟩)
  dsimp only [Pt.U, Pt.locs, Pt.cells, Pt.slots] at X6 l6 y6 z6 st6 hQ6
  subst l6 y6 z6
  obtain ⟨rfl, N6q, Kq6, o6_0⟩ := hQ6
  have N6 := Fr.app N0 N6q
  have Z9 : n0 ≤ T6.heap.size := Nat.le_trans Z2 Kq6.1
  have K10 : Keep h0 T6.heap [] := K3.trans Kq6 (allS (Or.inr sz_b1) all0)
  refine Good.back st6 ?_
  show Good p e below _ (T6.setTop (mkF m 12 #[.val (.ref r0), .val (.int (0 : Int32)), .val (.int (1 : Int32)), .val (.ref b1), .unset, .unset] [(.int (1 : Int32))]))
  refine Good.back (fun _ k => XS.istore X6.here hx rfl (hb hby own_d5_12) rfl (l' := #[.val (.ref r0), .val (.int (0 : Int32)), .val (.int (1 : Int32)), .val (.ref b1), .val (.int (1 : Int32)), .unset]) rfl k) ?_
  refine Good.back (fun _ k => XS.iload X6.here hx rfl (hb hby own_d5_14) rfl k) ?_
  refine Good.back (fun _ k => XS.iloadN X6.here hx rfl (hb hby own_d5_16) rfl k) ?_
  show Good p e below _ (T6.setTop (mkF m 17 #[.val (.ref r0), .val (.int (0 : Int32)), .val (.int (1 : Int32)), .val (.ref b1), .val (.int (1 : Int32)), .unset] [(.int (1 : Int32)), (.int (1 : Int32))]))
  refine Good.back (fun _ k => XS.icmpYes X6.here hx rfl (pc0 := 17) (pc' := 57) rfl (hb hby own_d5_17) rfl (teq (by decide : ((1 : Int32) = (1 : Int32)))).1 (by decide) (by decide) k) ?_
  show Good p e below _ (T6.setTop (mkF m 57 #[.val (.ref r0), .val (.int (0 : Int32)), .val (.int (1 : Int32)), .val (.ref b1), .val (.int (1 : Int32)), .unset] []))
  refine Good.back (fun _ k => XS.aloadN X6.here hx rfl (hb hby own_d5_57) rfl rfl k) ?_
  show Good p e below _ (T6.setTop (mkF m 58 #[.val (.ref r0), .val (.int (0 : Int32)), .val (.int (1 : Int32)), .val (.ref b1), .val (.int (1 : Int32)), .unset] [(.ref b1)]))
  obtain ⟨fs11, hr11, hrun11, hended11, hW11, hsame11⟩ := X6.leave (v := some (.ref b1)) (fun h => by rw [Bd.returns] at h; cases h)
  refine Good.done (retOut X6 hx Bd.returns rfl (Or.inr (Or.inr (Or.inr (Or.inr ⟨rfl, rfl, rfl⟩)))) (hb hby own_d5_58) hr11) hrun11 hended11 ⟨_, _, rfl, ?_, ⟨_, rfl⟩, hW11, hsame11.mono (by decide) (by decide)⟩
  show Q5n1 Z r0 kc c0 h0 n0 _ T6.heap _
  have f_12 : Exa Z T6.heap b1 "[B" := Exa.keep f_4 Kq6
  exact ⟨_, _, rfl, N6, K10, sz_b1, o6_0, f_12⟩
theorem own_d7_0 : decode jdk_52_method_15_code 0 = .ok (.iload_n 1, 1) := by decide +kernel
theorem own_d7_1 : decode jdk_52_method_15_code 1 = .ok (.aload_n 0, 1) := by decide +kernel
theorem own_d7_2 : decode jdk_52_method_15_code 2 = .ok (.arraylength, 1) := by decide +kernel
theorem own_d7_3 : decode jdk_52_method_15_code 3 = .ok (.isub, 1) := by decide +kernel
theorem own_d7_4 : decode jdk_52_method_15_code 4 = .ok (.bipush 31, 2) := by decide +kernel
theorem own_d7_6 : decode jdk_52_method_15_code 6 = .ok (.iushr, 1) := by decide +kernel
theorem own_d7_7 : decode jdk_52_method_15_code 7 = .ok (.i2b, 1) := by decide +kernel
theorem own_d7_8 : decode jdk_52_method_15_code 8 = .ok (.ireturn, 1) := by decide +kernel
theorem own_ef_7n1 (m : MethodId) (x0 : Addr) (x1 : Int32) : entryFrame m #[(.ref x0), (.int x1)] 2 = mkF m 0 #[.val (.ref x0), .val (.int x1)] [] := by first | (simp [entryFrame, mkF, argsToLocals, Value.category]; done) | rfl
def Q7n1 (Z : State) (r0 : Addr) (kb : ClassId) (d0 : Value) (h0 : Heap) (n0 : Nat) (v : Option Value) (h : Heap) (L : List Loc) : Prop := v = some (.int 0) ∧ Fr n0 L ∧ h = h0
set_option maxRecDepth 65536 in
set_option maxHeartbeats 40000000 in
theorem rm7n1 (l : Launch) (Z : State) (a0 : Array Value) (hw : ∀ d ∈ tables_1, d.before a0 Z = true) (ws : List Jvm.Cond) (r0 : Addr) (kb : ClassId) (d0 : Value) (h0 : Heap) (n0 : Nat) (Z0 : n0 ≤ h0.size) (VB : Arv Z h0 r0 kb .byte (1 : Int32) [d0] (.int (0 : Int32))) :
    MetFree l (⟨"java/lang/StringUTF16", "coderFromArrayLen", "([BI)B"⟩ : MethodName) (head1 (Jvm.Cond.code (⟨"java/lang/StringUTF16", "coderFromArrayLen", "([BI)B"⟩ : MethodName) jdk_52_method_15_code 2 (some .byte) :: ws) ({ frames := 0, cells := 0, slots := 0, locals := 0 } : Room)) (fun a U => a = #[(.ref r0), (.int (1 : Int32))] ∧ Z.Warmed39 U.vm ∧ U.heap = h0) (fun _ _ _ _ _ => True) (fun _ U o U' => ∃ v L, o = .returned v ∧ Q7n1 Z r0 kb d0 h0 n0 v U'.heap L ∧ FrameEnd U o U' L ({ frames := 0, cells := 0, slots := 0, locals := 0 } : Room).cells ({ frames := 0, cells := 0, slots := 0, locals := 0 } : Room).slots) := by
  refine MetFree.of_bodySF (plainFor_of_name own_pn0) hisR ?_
  intro p e s m args below meth c s₁ Bd hml0 hP hK
  obtain ⟨rfl, hZ, hh⟩ := hP
  have hx := Bd.exec
  have hby := Bd.bytes
  have hml : c.maxLocals = 2 := hml0
  have hown : s.vm.findClass "java/lang/StringUTF16" = some m.cls := findClass_of_methodNamed Bd.named
  have hnm := (name_of_methodNamed Bd.named Bd.method).1
  have X0 : Stand p l e ({ frames := 0, cells := 0, slots := 0, locals := 0 } : Room) s m #[(.ref r0), (.int (1 : Int32))] below meth c s₁ [] 0 0 := Stand.of_body Bd
  have e0 : s₁.heap = h0 := by rw [← hh, Bd.state]; rfl
  have N0 := Fr.nil n0
  show Good p e below (fun o U' => ∃ v L, o = .returned v ∧ Q7n1 Z r0 kb d0 h0 n0 v U'.heap L ∧ FrameEnd s o U' L ({ frames := 0, cells := 0, slots := 0, locals := 0 } : Room).cells ({ frames := 0, cells := 0, slots := 0, locals := 0 } : Room).slots) _
  refine Good.back (S' := s₁.setTop (mkF m 0 #[.val (.ref r0), .val (.int (1 : Int32))] [])) (fun t k => castTop (own_ef_7n1 m r0 (1 : Int32)) k) ?_
  show Good p e below _ (s₁.setTop (mkF m 0 #[.val (.ref r0), .val (.int (1 : Int32))] []))
  refine Good.back (fun _ k => XS.iloadN X0.here hx rfl (hb hby own_d7_0) rfl k) ?_
  refine Good.back (fun _ k => XS.aloadN X0.here hx rfl (hb hby own_d7_1) rfl rfl k) ?_
  have fc1 := VB
  obtain ⟨cl1, Ar1, qk1, S1, N1', H1, G1⟩ := fc1
  refine Good.back (X0.arraylength hx (by rw [e0]; exact Ar1.1) (State.isArrayOf_alike hZ.alike Ar1.2.1) (g := (mkF m 2 #[.val (.ref r0), .val (.int (1 : Int32))] [(.ref r0), (.int (1 : Int32))])) rfl rfl (hb hby own_d7_2)) ?_
  rw [len_of S1 N1']
  show Good p e below _ (s₁.setTop (mkF m 3 #[.val (.ref r0), .val (.int (1 : Int32))] [(.int (1 : Int32)), (.int (1 : Int32))]))
  refine Good.back (fun _ k => XS.isub X0.here hx rfl (hb hby own_d7_3) rfl k) ?_
  show Good p e below _ (s₁.setTop (mkF m 4 #[.val (.ref r0), .val (.int (1 : Int32))] [(.int ((1 : Int32) - (1 : Int32)))]))
  rw [show (((1 : Int32) - (1 : Int32)) : Int32) = (0 : Int32) from by decide]
  show Good p e below _ (s₁.setTop (mkF m 4 #[.val (.ref r0), .val (.int (1 : Int32))] [(.int (0 : Int32))]))
  refine Good.back (fun _ k => XS.bipush X0.here hx rfl (hb hby own_d7_4) k) ?_
  show Good p e below _ (s₁.setTop (mkF m 6 #[.val (.ref r0), .val (.int (1 : Int32))] [(.int (31 : Int32)), (.int (0 : Int32))]))
  refine Good.back (fun _ k => XS.iushr X0.here hx rfl (hb hby own_d7_6) rfl k) ?_
  show Good p e below _ (s₁.setTop (mkF m 7 #[.val (.ref r0), .val (.int (1 : Int32))] [(.int (((0 : Int32).toUInt32 >>> ((31 : Int32) &&& 31).toUInt32).toInt32))]))
  rw [show ((((0 : Int32).toUInt32 >>> ((31 : Int32) &&& 31).toUInt32).toInt32) : Int32) = (0 : Int32) from by decide]
  show Good p e below _ (s₁.setTop (mkF m 7 #[.val (.ref r0), .val (.int (1 : Int32))] [(.int (0 : Int32))]))
  refine Good.back (fun _ k => XS.i2b X0.here hx rfl (hb hby own_d7_7) rfl k) ?_
  show Good p e below _ (s₁.setTop (mkF m 8 #[.val (.ref r0), .val (.int (1 : Int32))] [(.int ((0 : Int32).toInt8.toInt32))]))
  obtain ⟨fs2, hr2, hrun2, hended2, hW2, hsame2⟩ := X0.leave (v := some (.int (nar .byte ((0 : Int32).toInt8.toInt32)))) (fun h => by rw [Bd.returns] at h; cases h)
  refine Good.done (retN X0 hx (t := .byte) Bd.returns (by simp) (hb hby own_d7_8) hr2) hrun2 hended2 ⟨_, _, rfl, ?_, ⟨_, rfl⟩, hW2, hsame2.mono (by decide) (by decide)⟩
  show Q7n1 Z r0 kb d0 h0 n0 _ s₁.heap _
  rw [e0]
  exact ⟨congrArg (fun z => some (Value.int z)) (by decide), N0, rfl⟩
theorem own_pd47 : parseMethodDescriptor "([CII)[B" = some ⟨[(.array .char), .int, .int], some (.array .byte)⟩ := by decide +kernel
theorem own_pd48 : parseMethodDescriptor "([BI)B" = some ⟨[(.array .byte), .int], some .byte⟩ := by decide +kernel
theorem own_pn1 : plainName "java/lang/String" = true := by first | (simp [plainName, overriddenIn]; done) | decide +kernel
theorem own_d3_0 : decode jdk_42_method_149_code 0 = .ok (.aload_n 0, 1) := by decide +kernel
theorem own_d3_1 : decode jdk_42_method_149_code 1 = .ok (.invokespecial 1, 3) := by decide +kernel
theorem own_d3_4 : decode jdk_42_method_149_code 4 = .ok (.iload_n 3, 1) := by decide +kernel
theorem own_d3_5 : decode jdk_42_method_149_code 5 = .ok (.ifCond .ne 22, 3) := by decide +kernel
theorem own_d3_27 : decode jdk_42_method_149_code 27 = .ok (.getstatic 38, 3) := by decide +kernel
theorem own_d3_30 : decode jdk_42_method_149_code 30 = .ok (.ifCond .eq 28, 3) := by decide +kernel
theorem own_d3_33 : decode jdk_42_method_149_code 33 = .ok (.aload_n 1, 1) := by decide +kernel
theorem own_d3_34 : decode jdk_42_method_149_code 34 = .ok (.iload_n 2, 1) := by decide +kernel
theorem own_d3_35 : decode jdk_42_method_149_code 35 = .ok (.iload_n 3, 1) := by decide +kernel
theorem own_d3_36 : decode jdk_42_method_149_code 36 = .ok (.invokestatic 177, 3) := by decide +kernel
theorem own_d3_39 : decode jdk_42_method_149_code 39 = .ok (.astore 5, 2) := by decide +kernel
theorem own_d3_41 : decode jdk_42_method_149_code 41 = .ok (.aload_n 0, 1) := by decide +kernel
theorem own_d3_42 : decode jdk_42_method_149_code 42 = .ok (.aload 5, 2) := by decide +kernel
theorem own_d3_44 : decode jdk_42_method_149_code 44 = .ok (.iload_n 3, 1) := by decide +kernel
theorem own_d3_45 : decode jdk_42_method_149_code 45 = .ok (.invokestatic 47, 3) := by decide +kernel
theorem own_d3_48 : decode jdk_42_method_149_code 48 = .ok (.putfield 15, 3) := by decide +kernel
theorem own_d3_51 : decode jdk_42_method_149_code 51 = .ok (.aload_n 0, 1) := by decide +kernel
theorem own_d3_52 : decode jdk_42_method_149_code 52 = .ok (.aload 5, 2) := by decide +kernel
theorem own_d3_54 : decode jdk_42_method_149_code 54 = .ok (.putfield 9, 3) := by decide +kernel
theorem own_d3_57 : decode jdk_42_method_149_code 57 = .ok (.return_, 1) := by decide +kernel
theorem own_ef_3n1 (m : MethodId) (x0 : Addr) (x1 : Addr) (x2 : Int32) (x3 : Int32) : entryFrame m #[(.ref x0), (.ref x1), (.int x2), (.int x3), .null] 6 = mkF m 0 #[.val (.ref x0), .val (.ref x1), .val (.int x2), .val (.int x3), .val .null, .unset] [] := by first | (simp [entryFrame, mkF, argsToLocals, Value.category]; done) | rfl
def Q3n1 (Z : State) (r0 : Addr) (r1 : Addr) (cs : Int32) (kc : ClassId) (c0 : Int32) (h0 : Heap) (n0 : Nat) (v : Option Value) (h : Heap) (L : List Loc) : Prop := ∃ (ar : Addr) (kb : ClassId), v = none ∧ Fr n0 L ∧ Keep h0 h [r0] ∧ h0.size ≤ ar ∧ Fld Z h r0 "java/lang/String" "value" "[B" (.ref ar) ∧ Fld Z h r0 "java/lang/String" "coder" "B" (.int (0 : Int32)) ∧ Arv Z h ar kb .byte (1 : Int32) [(.int (c0.toInt8.toInt32).toInt8.toInt32)] (.int (0 : Int32)) ∧ Exa Z h ar "[B"
set_option maxRecDepth 65536 in
set_option maxHeartbeats 40000000 in
theorem rm3n1 (l : Launch) (Z : State) (a0 : Array Value) (hw : ∀ d ∈ tables_1, d.before a0 Z = true) (ws : List Jvm.Cond) (r0 : Addr) (r1 : Addr) (cs : Int32) (kc : ClassId) (c0 : Int32) (h0 : Heap) (n0 : Nat) (Z0 : n0 ≤ h0.size) (S_cs : Sta Z h0 "java/lang/String" "COMPACT_STRINGS" "Z" (.int cs)) (hcs : ¬ (cs = (0 : Int32))) (E0 : Exa Z h0 r0 "java/lang/String") (g0 : n0 ≤ r0) (F_value : Fld Z h0 r0 "java/lang/String" "value" "[B" .null) (F_coder : Fld Z h0 r0 "java/lang/String" "coder" "B" (.int (0 : Int32))) (VC : Arv Z h0 r1 kc .char (1 : Int32) [(.int c0)] (.int (0 : Int32))) (hle0 : ¬ ((255 : Int32) < c0)) :
    MetFree l (⟨"java/lang/String", "<init>", "([CIILjava/lang/Void;)V"⟩ : MethodName) (head1 (Jvm.Cond.code (⟨"java/lang/String", "<init>", "([CIILjava/lang/Void;)V"⟩ : MethodName) jdk_42_method_149_code 6 none :: ws) ({ frames := 2, cells := 1, slots := 1, locals := 35 } : Room)) (fun a U => a = #[(.ref r0), (.ref r1), (.int (0 : Int32)), (.int (1 : Int32)), .null] ∧ Z.Warmed39 U.vm ∧ U.heap = h0) (fun _ _ _ _ _ => True) (fun _ U o U' => ∃ v L, o = .returned v ∧ Q3n1 Z r0 r1 cs kc c0 h0 n0 v U'.heap L ∧ FrameEnd U o U' L ({ frames := 2, cells := 1, slots := 1, locals := 35 } : Room).cells ({ frames := 2, cells := 1, slots := 1, locals := 35 } : Room).slots) := by
  refine MetFree.of_bodySF (plainFor_of_name own_pn1) hisR ?_
  intro p e s m args below meth c s₁ Bd hml0 hP hK
  obtain ⟨rfl, hZ, hh⟩ := hP
  have hx := Bd.exec
  have hby := Bd.bytes
  have hml : c.maxLocals = 6 := hml0
  have hown : s.vm.findClass "java/lang/String" = some m.cls := findClass_of_methodNamed Bd.named
  have hnm := (name_of_methodNamed Bd.named Bd.method).1
  have X0 : Stand p l e ({ frames := 2, cells := 1, slots := 1, locals := 35 } : Room) s m #[(.ref r0), (.ref r1), (.int (0 : Int32)), (.int (1 : Int32)), .null] below meth c s₁ [] 0 0 := Stand.of_body Bd
  have e0 : s₁.heap = h0 := by rw [← hh, Bd.state]; rfl
  have N0 := Fr.nil n0
  have KR : Keep h0 h0 [r0] := Keep.refl h0 _
  show Good p e below (fun o U' => ∃ v L, o = .returned v ∧ Q3n1 Z r0 r1 cs kc c0 h0 n0 v U'.heap L ∧ FrameEnd s o U' L ({ frames := 2, cells := 1, slots := 1, locals := 35 } : Room).cells ({ frames := 2, cells := 1, slots := 1, locals := 35 } : Room).slots) _
  refine Good.back (S' := s₁.setTop (mkF m 0 #[.val (.ref r0), .val (.ref r1), .val (.int (0 : Int32)), .val (.int (1 : Int32)), .val .null, .unset] [])) (fun t k => castTop (own_ef_3n1 m r0 r1 (0 : Int32) (1 : Int32)) k) ?_
  show Good p e below _ (s₁.setTop (mkF m 0 #[.val (.ref r0), .val (.ref r1), .val (.int (0 : Int32)), .val (.int (1 : Int32)), .val .null, .unset] []))
  refine Good.back (fun _ k => XS.aloadN X0.here hx rfl (hb hby own_d3_0) rfl rfl k) ?_
  obtain ⟨T1, X1, e1, st1⟩ := initO X0 hx hZ hown (hw _ (own_m 15 rfl)) (hw _ (own_m 16 rfl)) (hw _ (own_m 17 rfl)) e0 (g := (mkF m 1 #[.val (.ref r0), .val (.ref r1), .val (.int (0 : Int32)), .val (.int (1 : Int32)), .val .null, .unset] [(.ref r0)])) rfl (by rw [hml]; rfl) rfl (hb hby own_d3_1) (by decide) (W := 0) (by show 2 * 0 + _ ≤ _; exact Nat.le_of_eq rfl) (by decide)
  refine Good.back st1 ?_
  refine Good.back (fun _ k => XS.iloadN X1.here hx rfl (hb hby own_d3_4) rfl k) ?_
  show Good p e below _ (T1.setTop (mkF m 5 #[.val (.ref r0), .val (.ref r1), .val (.int (0 : Int32)), .val (.int (1 : Int32)), .val .null, .unset] [(.int (1 : Int32))]))
  refine Good.back (fun _ k => XS.ifYes X1.here hx rfl (pc0 := 5) (pc' := 27) rfl (hb hby own_d3_5) rfl ((if0 _ _).trans (feq (by decide : ¬ ((1 : Int32) = (0 : Int32)))).2) (by decide) (by decide) k) ?_
  show Good p e below _ (T1.setTop (mkF m 27 #[.val (.ref r0), .val (.ref r1), .val (.int (0 : Int32)), .val (.int (1 : Int32)), .val .null, .unset] []))
  obtain ⟨T2, X2, e2, st2⟩ := getS2 X1 hx hZ hown (host := "") (Or.inl (hw _ (own_m 18 rfl))) Via.refl e1 S_cs (g := (mkF m 27 #[.val (.ref r0), .val (.ref r1), .val (.int (0 : Int32)), .val (.int (1 : Int32)), .val .null, .unset] [])) rfl (hb hby own_d3_27)
  refine Good.back st2 ?_
  show Good p e below _ (T2.setTop (mkF m 30 #[.val (.ref r0), .val (.ref r1), .val (.int (0 : Int32)), .val (.int (1 : Int32)), .val .null, .unset] [(.int cs)]))
  refine Good.back (fun _ k => XS.ifNo X2.here hx rfl (hb hby own_d3_30) rfl ((if0 _ _).trans (feq hcs).1) k) ?_
  show Good p e below _ (T2.setTop (mkF m 33 #[.val (.ref r0), .val (.ref r1), .val (.int (0 : Int32)), .val (.int (1 : Int32)), .val .null, .unset] []))
  refine Good.back (fun _ k => XS.aloadN X2.here hx rfl (hb hby own_d3_33) rfl rfl k) ?_
  refine Good.back (fun _ k => XS.iloadN X2.here hx rfl (hb hby own_d3_34) rfl k) ?_
  refine Good.back (fun _ k => XS.iloadN X2.here hx rfl (hb hby own_d3_35) rfl k) ?_
  obtain ⟨_, _, ⟨T3, L3, k3, n3⟩, -, X3, ⟨Lc3, hQ3, l3, y3, z3⟩, st3⟩ := Jvm.LawKit.callS X2 hx (y := (⟨"java/lang/StringUTF16", "compress", "([CII)[B"⟩ : MethodName)) hown (mvT hZ (hw _ (own_m 19 rfl))) (mvT hZ (hw _ (own_m 20 rfl))) (mvT hZ (hw _ (own_m 21 rfl))) (mvT hZ (hw _ (own_m 22 rfl))) (by decide) (backOf (W := 0) (rm5n1 l Z a0 hw [] r1 kc c0 h0 n0 Z0 VC (by first | assumption | decide)) hZ (hw _ (own_m 22 rfl)) (hw _ (own_m 21 rfl)) (by decide) (by decide)) (g := (mkF m 36 #[.val (.ref r0), .val (.ref r1), .val (.int (0 : Int32)), .val (.int (1 : Int32)), .val .null, .unset] [(.int (1 : Int32)), (.int (0 : Int32)), (.ref r1)])) rfl (by rw [hml]; rfl) (argsL := [(.ref r1), (.int (0 : Int32)), (.int (1 : Int32))]) (rest := []) (lenOf own_pd47 rfl) rfl (by show 2 * 0 + _ ≤ _; exact Nat.le_of_eq rfl) (hb hby own_d3_36) (fun _ _ => ⟨rfl, e2, (by decide : 0 + 1 ≤ _), (by decide : 0 + 1 ≤ _)⟩)
  dsimp only [Pt.U, Pt.locs, Pt.cells, Pt.slots] at X3 l3 y3 z3 st3 hQ3
  subst l3 y3 z3
  obtain ⟨ar_3, kb_3, rfl, N3q, Kq3, o3_0, o3_1, o3_2⟩ := hQ3
  have N3 := Fr.app N0 N3q
  have Z4 : n0 ≤ T3.heap.size := Nat.le_trans Z0 Kq3.1
  have K5 : Keep h0 T3.heap [r0] := KR.trans Kq3 all0
  have g_ar_3 : n0 ≤ ar_3 := Nat.le_trans Z0 o3_0
  have sz_ar_3 : h0.size ≤ ar_3 := Nat.le_trans KR.1 o3_0
  refine Good.back st3 ?_
  show Good p e below _ (T3.setTop (mkF m 39 #[.val (.ref r0), .val (.ref r1), .val (.int (0 : Int32)), .val (.int (1 : Int32)), .val .null, .unset] [(.ref ar_3)]))
  refine Good.back (fun _ k => XS.astore X3.here hx rfl (hb hby own_d3_39) rfl rfl (l' := #[.val (.ref r0), .val (.ref r1), .val (.int (0 : Int32)), .val (.int (1 : Int32)), .val .null, .val (.ref ar_3)]) rfl k) ?_
  refine Good.back (fun _ k => XS.aloadN X3.here hx rfl (hb hby own_d3_41) rfl rfl k) ?_
  refine Good.back (fun _ k => XS.aload X3.here hx rfl (hb hby own_d3_42) rfl rfl k) ?_
  refine Good.back (fun _ k => XS.iloadN X3.here hx rfl (hb hby own_d3_44) rfl k) ?_
  obtain ⟨_, _, ⟨T6, L6, k6, n6⟩, -, X6, ⟨Lc6, hQ6, l6, y6, z6⟩, st6⟩ := Jvm.LawKit.callS X3 hx (y := (⟨"java/lang/StringUTF16", "coderFromArrayLen", "([BI)B"⟩ : MethodName)) hown (mvT hZ (hw _ (own_m 27 rfl))) (mvT hZ (hw _ (own_m 28 rfl))) (mvT hZ (hw _ (own_m 21 rfl))) (mvT hZ (hw _ (own_m 29 rfl))) (by decide) (backOf (W := 1) (rm7n1 l Z a0 hw [] ar_3 kb_3 (.int (c0.toInt8.toInt32).toInt8.toInt32) T3.heap n0 Z4 o3_1) hZ (hw _ (own_m 29 rfl)) (hw _ (own_m 21 rfl)) (by decide) (by decide)) (g := (mkF m 45 #[.val (.ref r0), .val (.ref r1), .val (.int (0 : Int32)), .val (.int (1 : Int32)), .val .null, .val (.ref ar_3)] [(.int (1 : Int32)), (.ref ar_3), (.ref r0)])) rfl (by rw [hml]; rfl) (argsL := [(.ref ar_3), (.int (1 : Int32))]) (rest := [(.ref r0)]) (lenOf own_pd48 rfl) rfl (by show 2 * 0 + _ ≤ _; exact Nat.le_of_eq rfl) (hb hby own_d3_45) (fun _ _ => ⟨rfl, rfl, (by decide : 1 + 0 ≤ _), (by decide : 1 + 0 ≤ _)⟩)
  dsimp only [Pt.U, Pt.locs, Pt.cells, Pt.slots] at X6 l6 y6 z6 st6 hQ6
  subst l6 y6 z6
  obtain ⟨rfl, N6q, eh6⟩ := hQ6
  have N6 := Fr.app N3 N6q
  refine Good.back st6 ?_
  have f_7 : Fld Z T3.heap r0 "java/lang/String" "coder" "B" (.int (0 : Int32)) := Fld.keep F_coder Kq3 nin0
  have f_8 : Exa Z T3.heap r0 "java/lang/String" := Exa.keep E0 Kq3
  obtain ⟨T9, h9, X9, e9, W9, st9⟩ := putFN X6 hx hZ hown (hw _ (own_m 30 rfl)) Via.refl eh6 f_7 f_8 (Or.inr ⟨(hw _ (own_m 31 rfl)), rfl, hnm⟩) (hw _ (own_m 6 rfl)) (ty := .byte) (v' := (.int (0 : Int32))) (by decide) rfl (by decide) (g := (mkF m 48 #[.val (.ref r0), .val (.ref r1), .val (.int (0 : Int32)), .val (.int (1 : Int32)), .val .null, .val (.ref ar_3)] [(.int (0 : Int32)), (.ref r0)])) rfl rfl (hb hby own_d3_48)
  refine Good.back st9 ?_
  have f_10 : Fld Z h9 r0 "java/lang/String" "coder" "B" (.int (0 : Int32)) := Fld.same W9 f_7
  have N9 := Fr.snoc X9 N6 g0
  have Z11 : n0 ≤ h9.size := Nat.le_trans Z4 (Keep.of_wr W9).1
  have K12 : Keep h0 h9 [r0] := K5.wr W9 (Or.inl (List.mem_of_getElem? (i := 0) rfl))
  refine Good.back (fun _ k => XS.aloadN X9.here hx rfl (hb hby own_d3_51) rfl rfl k) ?_
  refine Good.back (fun _ k => XS.aload X9.here hx rfl (hb hby own_d3_52) rfl rfl k) ?_
  have f_13 : Fld Z T3.heap r0 "java/lang/String" "value" "[B" .null := Fld.keep F_value Kq3 nin0
  have f_14 : Fld Z h9 r0 "java/lang/String" "value" "[B" .null := Fld.other W9 f_13 (Or.inr (slot_ne (Or.inr (hw _ (own_m 33 rfl))) (Or.inr (hw _ (own_m 31 rfl))) (by decide) (t := (.array .byte)) (t' := .byte) (by decide) (by decide)))
  have f_15 : Exa Z h9 r0 "java/lang/String" := Exa.wr W9 f_8
  obtain ⟨T16, h16, X16, e16, W16, st16⟩ := putF X9 hx hZ hown (host := "") (Or.inl (hw _ (own_m 32 rfl))) Via.refl e9 f_14 f_15 (Or.inr ⟨(hw _ (own_m 33 rfl)), rfl, hnm⟩) (hw _ (own_m 6 rfl)) (ty := (.array .byte)) (by decide) rfl rfl (g := (mkF m 54 #[.val (.ref r0), .val (.ref r1), .val (.int (0 : Int32)), .val (.int (1 : Int32)), .val .null, .val (.ref ar_3)] [(.ref ar_3), (.ref r0)])) rfl rfl (hb hby own_d3_54)
  refine Good.back st16 ?_
  have f_17 : Fld Z h16 r0 "java/lang/String" "value" "[B" (.ref ar_3) := Fld.same W16 f_14
  have N16 := Fr.snoc X16 N9 g0
  have Z18 : n0 ≤ h16.size := Nat.le_trans Z11 (Keep.of_wr W16).1
  have K19 : Keep h0 h16 [r0] := K12.wr W16 (Or.inl (List.mem_of_getElem? (i := 0) rfl))
  show Good p e below _ (T16.setTop (mkF m 57 #[.val (.ref r0), .val (.ref r1), .val (.int (0 : Int32)), .val (.int (1 : Int32)), .val .null, .val (.ref ar_3)] []))
  obtain ⟨fs20, hr20, hrun20, hended20, hW20, hsame20⟩ := X16.leave (v := none) (fun _ => rfl)
  refine Good.done (X16.returnOut hx Bd.returns (hb hby own_d3_57) hr20) hrun20 hended20 ⟨_, _, rfl, ?_, ⟨_, rfl⟩, hW20, hsame20.mono (by decide) (by decide)⟩
  show Q3n1 Z r0 r1 cs kc c0 h0 n0 _ T16.heap _
  rw [e16]
  have f_21 : Fld Z h16 r0 "java/lang/String" "coder" "B" (.int (0 : Int32)) := Fld.other W16 f_10 (Or.inr (slot_ne (Or.inr (hw _ (own_m 31 rfl))) (Or.inr (hw _ (own_m 33 rfl))) (by decide) (t := .byte) (t' := (.array .byte)) (by decide) (by decide)))
  have ne_r0_ar_3_23 : r0 ≠ ar_3 := Nat.ne_of_lt (Nat.lt_of_lt_of_le F_coder.lt o3_0)
  have f_22 : Arv Z h9 ar_3 kb_3 .byte (1 : Int32) [(.int (c0.toInt8.toInt32).toInt8.toInt32)] (.int (0 : Int32)) := Arv.other o3_1 W9 (Ne.symm ne_r0_ar_3_23)
  have f_24 : Arv Z h16 ar_3 kb_3 .byte (1 : Int32) [(.int (c0.toInt8.toInt32).toInt8.toInt32)] (.int (0 : Int32)) := Arv.other f_22 W16 (Ne.symm ne_r0_ar_3_23)
  have f_25 : Exa Z h9 ar_3 "[B" := Exa.wr W9 o3_2
  have f_26 : Exa Z h16 ar_3 "[B" := Exa.wr W16 f_25
  exact ⟨_, _, rfl, N16, K19, sz_ar_3, f_17, f_21, f_24, f_26⟩
theorem own_pd69 : parseMethodDescriptor "([CIILjava/lang/Void;)V" = some ⟨[(.array .char), .int, .int, (.object "java/lang/Void")], none⟩ := by decide +kernel
theorem own_d2_0 : decode jdk_42_method_3_code 0 = .ok (.aload_n 0, 1) := by decide +kernel
theorem own_d2_1 : decode jdk_42_method_3_code 1 = .ok (.aload_n 1, 1) := by decide +kernel
theorem own_d2_2 : decode jdk_42_method_3_code 2 = .ok (.iconst 0, 1) := by decide +kernel
theorem own_d2_3 : decode jdk_42_method_3_code 3 = .ok (.aload_n 1, 1) := by decide +kernel
theorem own_d2_4 : decode jdk_42_method_3_code 4 = .ok (.arraylength, 1) := by decide +kernel
theorem own_d2_5 : decode jdk_42_method_3_code 5 = .ok (.aconst_null, 1) := by decide +kernel
theorem own_d2_6 : decode jdk_42_method_3_code 6 = .ok (.invokespecial 27, 3) := by decide +kernel
theorem own_d2_9 : decode jdk_42_method_3_code 9 = .ok (.return_, 1) := by decide +kernel
theorem own_ef_2n1 (m : MethodId) (x0 : Addr) (x1 : Addr) : entryFrame m #[(.ref x0), (.ref x1)] 2 = mkF m 0 #[.val (.ref x0), .val (.ref x1)] [] := by first | (simp [entryFrame, mkF, argsToLocals, Value.category]; done) | rfl
def Q2n1 (Z : State) (r0 : Addr) (r1 : Addr) (cs : Int32) (kc : ClassId) (c0 : Int32) (h0 : Heap) (n0 : Nat) (v : Option Value) (h : Heap) (L : List Loc) : Prop := ∃ (ar : Addr) (kb : ClassId), v = none ∧ Fr n0 L ∧ Keep h0 h [r0] ∧ h0.size ≤ ar ∧ Fld Z h r0 "java/lang/String" "value" "[B" (.ref ar) ∧ Fld Z h r0 "java/lang/String" "coder" "B" (.int (0 : Int32)) ∧ Arv Z h ar kb .byte (1 : Int32) [(.int (c0.toInt8.toInt32).toInt8.toInt32)] (.int (0 : Int32)) ∧ Exa Z h ar "[B"
set_option maxRecDepth 65536 in
set_option maxHeartbeats 40000000 in
theorem rm2n1 (l : Launch) (Z : State) (a0 : Array Value) (hw : ∀ d ∈ tables_1, d.before a0 Z = true) (ws : List Jvm.Cond) (r0 : Addr) (r1 : Addr) (cs : Int32) (kc : ClassId) (c0 : Int32) (h0 : Heap) (n0 : Nat) (Z0 : n0 ≤ h0.size) (S_cs : Sta Z h0 "java/lang/String" "COMPACT_STRINGS" "Z" (.int cs)) (hcs : ¬ (cs = (0 : Int32))) (E0 : Exa Z h0 r0 "java/lang/String") (g0 : n0 ≤ r0) (F_value : Fld Z h0 r0 "java/lang/String" "value" "[B" .null) (F_coder : Fld Z h0 r0 "java/lang/String" "coder" "B" (.int (0 : Int32))) (VC : Arv Z h0 r1 kc .char (1 : Int32) [(.int c0)] (.int (0 : Int32))) (hle0 : ¬ ((255 : Int32) < c0)) :
    MetFree l (⟨"java/lang/String", "<init>", "([C)V"⟩ : MethodName) (head1 (Jvm.Cond.code (⟨"java/lang/String", "<init>", "([C)V"⟩ : MethodName) jdk_42_method_3_code 2 none :: ws) ({ frames := 3, cells := 1, slots := 1, locals := 52 } : Room)) (fun a U => a = #[(.ref r0), (.ref r1)] ∧ Z.Warmed39 U.vm ∧ U.heap = h0) (fun _ _ _ _ _ => True) (fun _ U o U' => ∃ v L, o = .returned v ∧ Q2n1 Z r0 r1 cs kc c0 h0 n0 v U'.heap L ∧ FrameEnd U o U' L ({ frames := 3, cells := 1, slots := 1, locals := 52 } : Room).cells ({ frames := 3, cells := 1, slots := 1, locals := 52 } : Room).slots) := by
  refine MetFree.of_bodySF (plainFor_of_name own_pn1) hisR ?_
  intro p e s m args below meth c s₁ Bd hml0 hP hK
  obtain ⟨rfl, hZ, hh⟩ := hP
  have hx := Bd.exec
  have hby := Bd.bytes
  have hml : c.maxLocals = 2 := hml0
  have hown : s.vm.findClass "java/lang/String" = some m.cls := findClass_of_methodNamed Bd.named
  have hnm := (name_of_methodNamed Bd.named Bd.method).1
  have X0 : Stand p l e ({ frames := 3, cells := 1, slots := 1, locals := 52 } : Room) s m #[(.ref r0), (.ref r1)] below meth c s₁ [] 0 0 := Stand.of_body Bd
  have e0 : s₁.heap = h0 := by rw [← hh, Bd.state]; rfl
  have N0 := Fr.nil n0
  have KR : Keep h0 h0 [r0] := Keep.refl h0 _
  show Good p e below (fun o U' => ∃ v L, o = .returned v ∧ Q2n1 Z r0 r1 cs kc c0 h0 n0 v U'.heap L ∧ FrameEnd s o U' L ({ frames := 3, cells := 1, slots := 1, locals := 52 } : Room).cells ({ frames := 3, cells := 1, slots := 1, locals := 52 } : Room).slots) _
  refine Good.back (S' := s₁.setTop (mkF m 0 #[.val (.ref r0), .val (.ref r1)] [])) (fun t k => castTop (own_ef_2n1 m r0 r1) k) ?_
  show Good p e below _ (s₁.setTop (mkF m 0 #[.val (.ref r0), .val (.ref r1)] []))
  refine Good.back (fun _ k => XS.aloadN X0.here hx rfl (hb hby own_d2_0) rfl rfl k) ?_
  refine Good.back (fun _ k => XS.aloadN X0.here hx rfl (hb hby own_d2_1) rfl rfl k) ?_
  refine Good.back (fun _ k => XS.iconst X0.here hx rfl (hb hby own_d2_2) k) ?_
  refine Good.back (fun _ k => XS.aloadN X0.here hx rfl (hb hby own_d2_3) rfl rfl k) ?_
  have fc1 := VC
  obtain ⟨cl1, Ar1, qk1, S1, N1', H1, G1⟩ := fc1
  refine Good.back (X0.arraylength hx (by rw [e0]; exact Ar1.1) (State.isArrayOf_alike hZ.alike Ar1.2.1) (g := (mkF m 4 #[.val (.ref r0), .val (.ref r1)] [(.ref r1), (.int (0 : Int32)), (.ref r1), (.ref r0)])) rfl rfl (hb hby own_d2_4)) ?_
  rw [len_of S1 N1']
  refine Good.back (fun _ k => XS.aconstNull X0.here hx rfl (hb hby own_d2_5) k) ?_
  obtain ⟨_, _, ⟨T2, L2, k2, n2⟩, -, X2, ⟨Lc2, hQ2, l2, y2, z2⟩, st2⟩ := X0.specialBack hx (y := (⟨"java/lang/String", "<init>", "([CIILjava/lang/Void;)V"⟩ : MethodName)) rfl hown (mvT hZ (hw _ (own_m 11 rfl))) (mvT hZ (hw _ (own_m 12 rfl))) (mvT hZ (hw _ (own_m 14 rfl))) (by decide) (backOf (W := 0) (rm3n1 l Z a0 hw [] r0 r1 cs kc c0 h0 n0 Z0 S_cs (by first | assumption | decide) E0 g0 F_value F_coder VC (by first | assumption | decide)) hZ (hw _ (own_m 14 rfl)) (hw _ (own_m 7 rfl)) (by decide) (by decide)) (g := (mkF m 6 #[.val (.ref r0), .val (.ref r1)] [.null, (.int (1 : Int32)), (.int (0 : Int32)), (.ref r1), (.ref r0)])) rfl (by rw [hml]; rfl) (Steps.refl _) (a := r0) (argsL := [(.ref r1), (.int (0 : Int32)), (.int (1 : Int32)), .null]) (rest := []) (lenOf own_pd69 rfl) rfl (by show 2 * 0 + _ ≤ _; exact Nat.le_of_eq rfl) (hb hby own_d2_6) (fun _ _ => ⟨rfl, e0, (by decide : 0 + 1 ≤ _), (by decide : 0 + 1 ≤ _)⟩)
  dsimp only [Pt.U, Pt.locs, Pt.cells, Pt.slots] at X2 l2 y2 z2 st2 hQ2
  subst l2 y2 z2
  obtain ⟨ar_2, kb_2, rfl, N2q, Kq2, o2_0, o2_1, o2_2, o2_3, o2_4⟩ := hQ2
  have N2 := Fr.app N0 N2q
  have Z3 : n0 ≤ T2.heap.size := Nat.le_trans Z0 Kq2.1
  have K4 : Keep h0 T2.heap [r0] := KR.trans Kq2 (allS (Or.inl (List.mem_of_getElem? (i := 0) rfl)) all0)
  have g_ar_2 : n0 ≤ ar_2 := Nat.le_trans Z0 o2_0
  have sz_ar_2 : h0.size ≤ ar_2 := Nat.le_trans KR.1 o2_0
  refine Good.back (fun _ k => st2.trans k) ?_
  show Good p e below _ (T2.setTop (mkF m 9 #[.val (.ref r0), .val (.ref r1)] []))
  obtain ⟨fs5, hr5, hrun5, hended5, hW5, hsame5⟩ := X2.leave (v := none) (fun _ => rfl)
  refine Good.done (X2.returnOut hx Bd.returns (hb hby own_d2_9) hr5) hrun5 hended5 ⟨_, _, rfl, ?_, ⟨_, rfl⟩, hW5, hsame5.mono (by decide) (by decide)⟩
  show Q2n1 Z r0 r1 cs kc c0 h0 n0 _ T2.heap _
  exact ⟨_, _, rfl, N2, K4, sz_ar_2, o2_1, o2_2, o2_3, o2_4⟩
theorem own_pn2 : plainName "java/lang/StringLatin1" = true := by first | (simp [plainName, overriddenIn]; done) | decide +kernel
theorem own_d9_0 : decode jdk_43_method_3_code 0 = .ok (.iload_n 0, 1) := by decide +kernel
theorem own_d9_1 : decode jdk_43_method_3_code 1 = .ok (.sipush 255, 3) := by decide +kernel
theorem own_d9_4 : decode jdk_43_method_3_code 4 = .ok (.if_icmp .gt 7, 3) := by decide +kernel
theorem own_d9_7 : decode jdk_43_method_3_code 7 = .ok (.iconst 1, 1) := by decide +kernel
theorem own_d9_8 : decode jdk_43_method_3_code 8 = .ok (.goto 4, 3) := by decide +kernel
theorem own_d9_12 : decode jdk_43_method_3_code 12 = .ok (.ireturn, 1) := by decide +kernel
theorem own_ef_9 (m : MethodId) (x0 : Int32) : entryFrame m #[(.int x0)] 1 = mkF m 0 #[.val (.int x0)] [] := by first | (simp [entryFrame, mkF, argsToLocals, Value.category]; done) | rfl
def Q9 (Z : State) (p0 : Int32) (h0 : Heap) (n0 : Nat) (v : Option Value) (h : Heap) (L : List Loc) : Prop := v = some (.int 1) ∧ Fr n0 L ∧ h = h0
set_option maxRecDepth 65536 in
set_option maxHeartbeats 40000000 in
theorem rm9 (l : Launch) (Z : State) (a0 : Array Value) (hw : ∀ d ∈ tables_1, d.before a0 Z = true) (ws : List Jvm.Cond) (p0 : Int32) (h0 : Heap) (n0 : Nat) (Z0 : n0 ≤ h0.size) (hle : ¬ ((255 : Int32) < p0)) :
    MetFree l (⟨"java/lang/StringLatin1", "canEncode", "(C)Z"⟩ : MethodName) (head1 (Jvm.Cond.code (⟨"java/lang/StringLatin1", "canEncode", "(C)Z"⟩ : MethodName) jdk_43_method_3_code 1 (some .boolean) :: ws) ({ frames := 0, cells := 0, slots := 0, locals := 0 } : Room)) (fun a U => a = #[(.int p0)] ∧ Z.Warmed39 U.vm ∧ U.heap = h0) (fun _ _ _ _ _ => True) (fun _ U o U' => ∃ v L, o = .returned v ∧ Q9 Z p0 h0 n0 v U'.heap L ∧ FrameEnd U o U' L ({ frames := 0, cells := 0, slots := 0, locals := 0 } : Room).cells ({ frames := 0, cells := 0, slots := 0, locals := 0 } : Room).slots) := by
  refine MetFree.of_bodySF (plainFor_of_name own_pn2) hisR ?_
  intro p e s m args below meth c s₁ Bd hml0 hP hK
  obtain ⟨rfl, hZ, hh⟩ := hP
  have hx := Bd.exec
  have hby := Bd.bytes
  have hml : c.maxLocals = 1 := hml0
  have hown : s.vm.findClass "java/lang/StringLatin1" = some m.cls := findClass_of_methodNamed Bd.named
  have hnm := (name_of_methodNamed Bd.named Bd.method).1
  have X0 : Stand p l e ({ frames := 0, cells := 0, slots := 0, locals := 0 } : Room) s m #[(.int p0)] below meth c s₁ [] 0 0 := Stand.of_body Bd
  have e0 : s₁.heap = h0 := by rw [← hh, Bd.state]; rfl
  have N0 := Fr.nil n0
  show Good p e below (fun o U' => ∃ v L, o = .returned v ∧ Q9 Z p0 h0 n0 v U'.heap L ∧ FrameEnd s o U' L ({ frames := 0, cells := 0, slots := 0, locals := 0 } : Room).cells ({ frames := 0, cells := 0, slots := 0, locals := 0 } : Room).slots) _
  refine Good.back (S' := s₁.setTop (mkF m 0 #[.val (.int p0)] [])) (fun t k => castTop (own_ef_9 m p0) k) ?_
  show Good p e below _ (s₁.setTop (mkF m 0 #[.val (.int p0)] []))
  refine Good.back (fun _ k => XS.iloadN X0.here hx rfl (hb hby own_d9_0) rfl k) ?_
  refine Good.back (fun _ k => XS.sipush X0.here hx rfl (hb hby own_d9_1) k) ?_
  show Good p e below _ (s₁.setTop (mkF m 4 #[.val (.int p0)] [(.int (255 : Int32)), (.int p0)]))
  refine Good.back (fun _ k => XS.icmpNo X0.here hx rfl (hb hby own_d9_4) rfl (flt hle).2.2.1 k) ?_
  show Good p e below _ (s₁.setTop (mkF m 7 #[.val (.int p0)] []))
  refine Good.back (fun _ k => XS.iconst X0.here hx rfl (hb hby own_d9_7) k) ?_
  show Good p e below _ (s₁.setTop (mkF m 8 #[.val (.int p0)] [(.int (1 : Int32))]))
  refine Good.back (fun _ k => XS.goto X0.here hx rfl (pc0 := 8) (pc' := 12) rfl (hb hby own_d9_8) (by decide) (by decide) k) ?_
  show Good p e below _ (s₁.setTop (mkF m 12 #[.val (.int p0)] [(.int (1 : Int32))]))
  obtain ⟨fs1, hr1, hrun1, hended1, hW1, hsame1⟩ := X0.leave (v := some (.int (1 : Int32))) (fun h => by rw [Bd.returns] at h; cases h)
  refine Good.done (retN X0 hx (t := .boolean) Bd.returns (by simp) (hb hby own_d9_12) hr1) hrun1 hended1 ⟨_, _, rfl, ?_, ⟨_, rfl⟩, hW1, hsame1.mono (by decide) (by decide)⟩
  show Q9 Z p0 h0 n0 _ s₁.heap _
  rw [e0]
  exact ⟨rfl, N0, rfl⟩
theorem own_d10_0 : decode jdk_43_method_46_code 0 = .ok (.iconst 1, 1) := by decide +kernel
theorem own_d10_1 : decode jdk_43_method_46_code 1 = .ok (.newarray .byte, 2) := by decide +kernel
theorem own_d10_3 : decode jdk_43_method_46_code 3 = .ok (.dup, 1) := by decide +kernel
theorem own_d10_4 : decode jdk_43_method_46_code 4 = .ok (.iconst 0, 1) := by decide +kernel
theorem own_d10_5 : decode jdk_43_method_46_code 5 = .ok (.iload_n 0, 1) := by decide +kernel
theorem own_d10_6 : decode jdk_43_method_46_code 6 = .ok (.i2b, 1) := by decide +kernel
theorem own_d10_7 : decode jdk_43_method_46_code 7 = .ok (.bastore, 1) := by decide +kernel
theorem own_d10_8 : decode jdk_43_method_46_code 8 = .ok (.areturn, 1) := by decide +kernel
theorem own_ef_10 (m : MethodId) (x0 : Int32) : entryFrame m #[(.int x0)] 1 = mkF m 0 #[.val (.int x0)] [] := by first | (simp [entryFrame, mkF, argsToLocals, Value.category]; done) | rfl
def Q10 (Z : State) (p0 : Int32) (h0 : Heap) (n0 : Nat) (v : Option Value) (h : Heap) (L : List Loc) : Prop := ∃ (ar : Addr) (kk : ClassId), v = some (.ref ar) ∧ Fr n0 L ∧ Keep h0 h [] ∧ h0.size ≤ ar ∧ Arv Z h ar kk .byte (1 : Int32) [(.int (p0.toInt8.toInt32).toInt8.toInt32)] (.int (0 : Int32))
set_option maxRecDepth 65536 in
set_option maxHeartbeats 40000000 in
theorem rm10 (l : Launch) (Z : State) (a0 : Array Value) (hw : ∀ d ∈ tables_1, d.before a0 Z = true) (ws : List Jvm.Cond) (p0 : Int32) (h0 : Heap) (n0 : Nat) (Z0 : n0 ≤ h0.size)  :
    MetFree l (⟨"java/lang/StringLatin1", "toBytes", "(C)[B"⟩ : MethodName) (head1 (Jvm.Cond.code (⟨"java/lang/StringLatin1", "toBytes", "(C)[B"⟩ : MethodName) jdk_43_method_46_code 1 (some (.array .byte)) :: ws) ({ frames := 0, cells := 1, slots := 1, locals := 0 } : Room)) (fun a U => a = #[(.int p0)] ∧ Z.Warmed39 U.vm ∧ U.heap = h0) (fun _ _ _ _ _ => True) (fun _ U o U' => ∃ v L, o = .returned v ∧ Q10 Z p0 h0 n0 v U'.heap L ∧ FrameEnd U o U' L ({ frames := 0, cells := 1, slots := 1, locals := 0 } : Room).cells ({ frames := 0, cells := 1, slots := 1, locals := 0 } : Room).slots) := by
  refine MetFree.of_bodySF (plainFor_of_name own_pn2) hisR ?_
  intro p e s m args below meth c s₁ Bd hml0 hP hK
  obtain ⟨rfl, hZ, hh⟩ := hP
  have hx := Bd.exec
  have hby := Bd.bytes
  have hml : c.maxLocals = 1 := hml0
  have hown : s.vm.findClass "java/lang/StringLatin1" = some m.cls := findClass_of_methodNamed Bd.named
  have hnm := (name_of_methodNamed Bd.named Bd.method).1
  have X0 : Stand p l e ({ frames := 0, cells := 1, slots := 1, locals := 0 } : Room) s m #[(.int p0)] below meth c s₁ [] 0 0 := Stand.of_body Bd
  have e0 : s₁.heap = h0 := by rw [← hh, Bd.state]; rfl
  have N0 := Fr.nil n0
  have KR : Keep h0 h0 [] := Keep.refl h0 _
  show Good p e below (fun o U' => ∃ v L, o = .returned v ∧ Q10 Z p0 h0 n0 v U'.heap L ∧ FrameEnd s o U' L ({ frames := 0, cells := 1, slots := 1, locals := 0 } : Room).cells ({ frames := 0, cells := 1, slots := 1, locals := 0 } : Room).slots) _
  refine Good.back (S' := s₁.setTop (mkF m 0 #[.val (.int p0)] [])) (fun t k => castTop (own_ef_10 m p0) k) ?_
  show Good p e below _ (s₁.setTop (mkF m 0 #[.val (.int p0)] []))
  refine Good.back (fun _ k => XS.iconst X0.here hx rfl (hb hby own_d10_0) k) ?_
  obtain ⟨T1, h1, k1, X1, e1, E1, A1, st1⟩ := newP X0 hx hZ (hw _ (own_m 23 rfl)) e0 (g := (mkF m 1 #[.val (.int p0)] [(.int (1 : Int32))])) rfl (hb hby own_d10_1) rfl (by decide) (cap := 1) (by decide) (by decide) (by decide) (by decide)
  obtain ⟨b1, g1⟩ : ∃ z, z = h0.size := ⟨_, rfl⟩
  rw [← g1] at A1 st1
  refine Good.back st1 ?_
  have g_b1 : n0 ≤ b1 := Nat.le_trans Z0 (Nat.le_of_eq g1.symm)
  have sz_b1 : h0.size ≤ b1 := Nat.le_trans KR.1 (Nat.le_of_eq g1.symm)
  have Z2 : n0 ≤ h1.size := Nat.le_trans Z0 E1.1
  have K3 : Keep h0 h1 [] := KR.ext E1
  have f_4 : Arv Z h1 b1 k1 .byte (1 : Int32) [(.int (0 : Int32))] (.int (0 : Int32)) := (Arv.new A1 (by decide)).pad (pad_rep [] (.int (0 : Int32)) 1)
  refine Good.back (fun _ k => XS.dup X1.here hx rfl (hb hby own_d10_3) rfl rfl k) ?_
  refine Good.back (fun _ k => XS.iconst X1.here hx rfl (hb hby own_d10_4) k) ?_
  refine Good.back (fun _ k => XS.iloadN X1.here hx rfl (hb hby own_d10_5) rfl k) ?_
  show Good p e below _ (T1.setTop (mkF m 6 #[.val (.int p0)] [(.int p0), (.int (0 : Int32)), (.ref b1), (.ref b1)]))
  refine Good.back (fun _ k => XS.i2b X1.here hx rfl (hb hby own_d10_6) rfl k) ?_
  show Good p e below _ (T1.setTop (mkF m 7 #[.val (.int p0)] [(.int (p0.toInt8.toInt32)), (.int (0 : Int32)), (.ref b1), (.ref b1)]))
  have fc5 := f_4
  obtain ⟨cl5, Ar5, qk5, S5, N5', H5, G5⟩ := fc5
  have hin5 : ¬ ((0 : Int32) < 0 ∨ cl5.slots.size ≤ ((0 : Int32)).toNatClampNeg) := inb_of S5 ⟨by decide, by decide⟩
  obtain ⟨T5, h5, X5, e5, W5, st5⟩ := stB X1 hx hZ e1 Ar5 (j := (0 : Int32)) hin5 (g := (mkF m 7 #[.val (.int p0)] [(.int (p0.toInt8.toInt32)), (.int (0 : Int32)), (.ref b1), (.ref b1)])) rfl rfl (hb hby own_d10_7)
  refine Good.back st5 ?_
  have f_6 : Arv Z h5 b1 k1 .byte (1 : Int32) [(.int (p0.toInt8.toInt32).toInt8.toInt32)] (.int (0 : Int32)) := Arv.set Ar5 qk5 S5 N5' H5 G5 (fits_nar_byte _) W5 0 rfl (Nat.le_of_ble_eq_true rfl)
  have N5 := Fr.snoc X5 N0 g_b1
  have Z7 : n0 ≤ h5.size := Nat.le_trans Z2 (Keep.of_wr W5).1
  have K8 : Keep h0 h5 [] := K3.wr W5 (Or.inr sz_b1)
  show Good p e below _ (T5.setTop (mkF m 8 #[.val (.int p0)] [(.ref b1)]))
  obtain ⟨fs9, hr9, hrun9, hended9, hW9, hsame9⟩ := X5.leave (v := some (.ref b1)) (fun h => by rw [Bd.returns] at h; cases h)
  refine Good.done (retOut X5 hx Bd.returns rfl (Or.inr (Or.inr (Or.inr (Or.inr ⟨rfl, rfl, rfl⟩)))) (hb hby own_d10_8) hr9) hrun9 hended9 ⟨_, _, rfl, ?_, ⟨_, rfl⟩, hW9, hsame9.mono (by decide) (by decide)⟩
  show Q10 Z p0 h0 n0 _ T5.heap _
  rw [e5]
  exact ⟨_, _, rfl, N5, K8, sz_b1, f_6⟩
theorem own_d11_0 : decode jdk_42_method_151_code 0 = .ok (.aload_n 0, 1) := by decide +kernel
theorem own_d11_1 : decode jdk_42_method_151_code 1 = .ok (.invokespecial 1, 3) := by decide +kernel
theorem own_d11_4 : decode jdk_42_method_151_code 4 = .ok (.aload_n 0, 1) := by decide +kernel
theorem own_d11_5 : decode jdk_42_method_151_code 5 = .ok (.aload_n 1, 1) := by decide +kernel
theorem own_d11_6 : decode jdk_42_method_151_code 6 = .ok (.putfield 9, 3) := by decide +kernel
theorem own_d11_9 : decode jdk_42_method_151_code 9 = .ok (.aload_n 0, 1) := by decide +kernel
theorem own_d11_10 : decode jdk_42_method_151_code 10 = .ok (.iload_n 2, 1) := by decide +kernel
theorem own_d11_11 : decode jdk_42_method_151_code 11 = .ok (.putfield 15, 3) := by decide +kernel
theorem own_d11_14 : decode jdk_42_method_151_code 14 = .ok (.return_, 1) := by decide +kernel
theorem own_ef_11 (m : MethodId) (x0 : Addr) (x1 : Addr) (x2 : Int32) : entryFrame m #[(.ref x0), (.ref x1), (.int x2)] 3 = mkF m 0 #[.val (.ref x0), .val (.ref x1), .val (.int x2)] [] := by first | (simp [entryFrame, mkF, argsToLocals, Value.category]; done) | rfl
def Q11 (Z : State) (r0 : Addr) (r1 : Addr) (h0 : Heap) (n0 : Nat) (v : Option Value) (h : Heap) (L : List Loc) : Prop := v = none ∧ Fr n0 L ∧ Keep h0 h [r0] ∧ Fld Z h r0 "java/lang/String" "value" "[B" (.ref r1) ∧ Fld Z h r0 "java/lang/String" "coder" "B" (.int (0 : Int32))
set_option maxRecDepth 65536 in
set_option maxHeartbeats 40000000 in
theorem rm11 (l : Launch) (Z : State) (a0 : Array Value) (hw : ∀ d ∈ tables_1, d.before a0 Z = true) (ws : List Jvm.Cond) (r0 : Addr) (r1 : Addr) (h0 : Heap) (n0 : Nat) (Z0 : n0 ≤ h0.size) (E0 : Exa Z h0 r0 "java/lang/String") (g0 : n0 ≤ r0) (F_value : Fld Z h0 r0 "java/lang/String" "value" "[B" .null) (F_coder : Fld Z h0 r0 "java/lang/String" "coder" "B" (.int (0 : Int32))) :
    MetFree l (⟨"java/lang/String", "<init>", "([BB)V"⟩ : MethodName) (head1 (Jvm.Cond.code (⟨"java/lang/String", "<init>", "([BB)V"⟩ : MethodName) jdk_42_method_151_code 3 none :: ws) ({ frames := 1, cells := 0, slots := 0, locals := 12 } : Room)) (fun a U => a = #[(.ref r0), (.ref r1), (.int (0 : Int32))] ∧ Z.Warmed39 U.vm ∧ U.heap = h0) (fun _ _ _ _ _ => True) (fun _ U o U' => ∃ v L, o = .returned v ∧ Q11 Z r0 r1 h0 n0 v U'.heap L ∧ FrameEnd U o U' L ({ frames := 1, cells := 0, slots := 0, locals := 12 } : Room).cells ({ frames := 1, cells := 0, slots := 0, locals := 12 } : Room).slots) := by
  refine MetFree.of_bodySF (plainFor_of_name own_pn1) hisR ?_
  intro p e s m args below meth c s₁ Bd hml0 hP hK
  obtain ⟨rfl, hZ, hh⟩ := hP
  have hx := Bd.exec
  have hby := Bd.bytes
  have hml : c.maxLocals = 3 := hml0
  have hown : s.vm.findClass "java/lang/String" = some m.cls := findClass_of_methodNamed Bd.named
  have hnm := (name_of_methodNamed Bd.named Bd.method).1
  have X0 : Stand p l e ({ frames := 1, cells := 0, slots := 0, locals := 12 } : Room) s m #[(.ref r0), (.ref r1), (.int (0 : Int32))] below meth c s₁ [] 0 0 := Stand.of_body Bd
  have e0 : s₁.heap = h0 := by rw [← hh, Bd.state]; rfl
  have N0 := Fr.nil n0
  have KR : Keep h0 h0 [r0] := Keep.refl h0 _
  show Good p e below (fun o U' => ∃ v L, o = .returned v ∧ Q11 Z r0 r1 h0 n0 v U'.heap L ∧ FrameEnd s o U' L ({ frames := 1, cells := 0, slots := 0, locals := 12 } : Room).cells ({ frames := 1, cells := 0, slots := 0, locals := 12 } : Room).slots) _
  refine Good.back (S' := s₁.setTop (mkF m 0 #[.val (.ref r0), .val (.ref r1), .val (.int (0 : Int32))] [])) (fun t k => castTop (own_ef_11 m r0 r1 (0 : Int32)) k) ?_
  show Good p e below _ (s₁.setTop (mkF m 0 #[.val (.ref r0), .val (.ref r1), .val (.int (0 : Int32))] []))
  refine Good.back (fun _ k => XS.aloadN X0.here hx rfl (hb hby own_d11_0) rfl rfl k) ?_
  obtain ⟨T1, X1, e1, st1⟩ := initO X0 hx hZ hown (hw _ (own_m 15 rfl)) (hw _ (own_m 16 rfl)) (hw _ (own_m 17 rfl)) e0 (g := (mkF m 1 #[.val (.ref r0), .val (.ref r1), .val (.int (0 : Int32))] [(.ref r0)])) rfl (by rw [hml]; rfl) rfl (hb hby own_d11_1) (by decide) (W := 0) (by show 2 * 0 + _ ≤ _; exact Nat.le_of_eq rfl) (by decide)
  refine Good.back st1 ?_
  refine Good.back (fun _ k => XS.aloadN X1.here hx rfl (hb hby own_d11_4) rfl rfl k) ?_
  refine Good.back (fun _ k => XS.aloadN X1.here hx rfl (hb hby own_d11_5) rfl rfl k) ?_
  obtain ⟨T2, h2, X2, e2, W2, st2⟩ := putF X1 hx hZ hown (host := "") (Or.inl (hw _ (own_m 32 rfl))) Via.refl e1 F_value E0 (Or.inr ⟨(hw _ (own_m 33 rfl)), rfl, hnm⟩) (hw _ (own_m 6 rfl)) (ty := (.array .byte)) (by decide) rfl rfl (g := (mkF m 6 #[.val (.ref r0), .val (.ref r1), .val (.int (0 : Int32))] [(.ref r1), (.ref r0)])) rfl rfl (hb hby own_d11_6)
  refine Good.back st2 ?_
  have f_3 : Fld Z h2 r0 "java/lang/String" "value" "[B" (.ref r1) := Fld.same W2 F_value
  have N2 := Fr.snoc X2 N0 g0
  have Z4 : n0 ≤ h2.size := Nat.le_trans Z0 (Keep.of_wr W2).1
  have K5 : Keep h0 h2 [r0] := KR.wr W2 (Or.inl (List.mem_of_getElem? (i := 0) rfl))
  refine Good.back (fun _ k => XS.aloadN X2.here hx rfl (hb hby own_d11_9) rfl rfl k) ?_
  refine Good.back (fun _ k => XS.iloadN X2.here hx rfl (hb hby own_d11_10) rfl k) ?_
  have f_6 : Fld Z h2 r0 "java/lang/String" "coder" "B" (.int (0 : Int32)) := Fld.other W2 F_coder (Or.inr (slot_ne (Or.inr (hw _ (own_m 31 rfl))) (Or.inr (hw _ (own_m 33 rfl))) (by decide) (t := .byte) (t' := (.array .byte)) (by decide) (by decide)))
  have f_7 : Exa Z h2 r0 "java/lang/String" := Exa.wr W2 E0
  obtain ⟨T8, h8, X8, e8, W8, st8⟩ := putFN X2 hx hZ hown (hw _ (own_m 30 rfl)) Via.refl e2 f_6 f_7 (Or.inr ⟨(hw _ (own_m 31 rfl)), rfl, hnm⟩) (hw _ (own_m 6 rfl)) (ty := .byte) (v' := (.int (0 : Int32))) (by decide) rfl (by decide) (g := (mkF m 11 #[.val (.ref r0), .val (.ref r1), .val (.int (0 : Int32))] [(.int (0 : Int32)), (.ref r0)])) rfl rfl (hb hby own_d11_11)
  refine Good.back st8 ?_
  have f_9 : Fld Z h8 r0 "java/lang/String" "coder" "B" (.int (0 : Int32)) := Fld.same W8 f_6
  have N8 := Fr.snoc X8 N2 g0
  have Z10 : n0 ≤ h8.size := Nat.le_trans Z4 (Keep.of_wr W8).1
  have K11 : Keep h0 h8 [r0] := K5.wr W8 (Or.inl (List.mem_of_getElem? (i := 0) rfl))
  show Good p e below _ (T8.setTop (mkF m 14 #[.val (.ref r0), .val (.ref r1), .val (.int (0 : Int32))] []))
  obtain ⟨fs12, hr12, hrun12, hended12, hW12, hsame12⟩ := X8.leave (v := none) (fun _ => rfl)
  refine Good.done (X8.returnOut hx Bd.returns (hb hby own_d11_14) hr12) hrun12 hended12 ⟨_, _, rfl, ?_, ⟨_, rfl⟩, hW12, hsame12.mono (by decide) (by decide)⟩
  show Q11 Z r0 r1 h0 n0 _ T8.heap _
  rw [e8]
  have f_13 : Fld Z h8 r0 "java/lang/String" "value" "[B" (.ref r1) := Fld.other W8 f_3 (Or.inr (slot_ne (Or.inr (hw _ (own_m 33 rfl))) (Or.inr (hw _ (own_m 31 rfl))) (by decide) (t := (.array .byte)) (t' := .byte) (by decide) (by decide)))
  exact ⟨rfl, N8, K11, f_13, f_9⟩
theorem own_pd101 : parseMethodDescriptor "(C)Z" = some ⟨[.char], some .boolean⟩ := by decide +kernel
theorem own_pd102 : parseMethodDescriptor "(C)[B" = some ⟨[.char], some (.array .byte)⟩ := by decide +kernel
theorem own_pd103 : parseMethodDescriptor "([BB)V" = some ⟨[(.array .byte), .byte], none⟩ := by decide +kernel
theorem own_d8_0 : decode jdk_42_method_139_code 0 = .ok (.getstatic 38, 3) := by decide +kernel
theorem own_d8_3 : decode jdk_42_method_139_code 3 = .ok (.ifCond .eq 23, 3) := by decide +kernel
theorem own_d8_6 : decode jdk_42_method_139_code 6 = .ok (.iload_n 0, 1) := by decide +kernel
theorem own_d8_7 : decode jdk_42_method_139_code 7 = .ok (.invokestatic 1015, 3) := by decide +kernel
theorem own_d8_10 : decode jdk_42_method_139_code 10 = .ok (.ifCond .eq 16, 3) := by decide +kernel
theorem own_d8_13 : decode jdk_42_method_139_code 13 = .ok (.new 10, 3) := by decide +kernel
theorem own_d8_16 : decode jdk_42_method_139_code 16 = .ok (.dup, 1) := by decide +kernel
theorem own_d8_17 : decode jdk_42_method_139_code 17 = .ok (.iload_n 0, 1) := by decide +kernel
theorem own_d8_18 : decode jdk_42_method_139_code 18 = .ok (.invokestatic 1018, 3) := by decide +kernel
theorem own_d8_21 : decode jdk_42_method_139_code 21 = .ok (.iconst 0, 1) := by decide +kernel
theorem own_d8_22 : decode jdk_42_method_139_code 22 = .ok (.invokespecial 209, 3) := by decide +kernel
theorem own_d8_25 : decode jdk_42_method_139_code 25 = .ok (.areturn, 1) := by decide +kernel
theorem own_ef_8 (m : MethodId) (x0 : Int32) : entryFrame m #[(.int x0)] 1 = mkF m 0 #[.val (.int x0)] [] := by first | (simp [entryFrame, mkF, argsToLocals, Value.category]; done) | rfl
def Q8 (Z : State) (p0 : Int32) (cs : Int32) (h0 : Heap) (n0 : Nat) (v : Option Value) (h : Heap) (L : List Loc) : Prop := ∃ (sr ar : Addr) (kk : ClassId), v = some (.ref sr) ∧ Fr n0 L ∧ Keep h0 h [] ∧ h0.size ≤ sr ∧ h0.size ≤ ar ∧ Exa Z h sr "java/lang/String" ∧ Fld Z h sr "java/lang/String" "value" "[B" (.ref ar) ∧ Fld Z h sr "java/lang/String" "coder" "B" (.int (0 : Int32)) ∧ Arv Z h ar kk .byte (1 : Int32) [(.int (p0.toInt8.toInt32).toInt8.toInt32)] (.int (0 : Int32)) ∧ sr ≠ ar
set_option maxRecDepth 65536 in
set_option maxHeartbeats 40000000 in
theorem rm8 (l : Launch) (Z : State) (a0 : Array Value) (hw : ∀ d ∈ tables_1, d.before a0 Z = true) (ws : List Jvm.Cond) (p0 : Int32) (cs : Int32) (h0 : Heap) (n0 : Nat) (Z0 : n0 ≤ h0.size) (S_cs : Sta Z h0 "java/lang/String" "COMPACT_STRINGS" "Z" (.int cs)) (hcs : ¬ (cs = (0 : Int32))) (hle : ¬ ((255 : Int32) < p0)) :
    MetFree l (⟨"java/lang/String", "valueOf", "(C)Ljava/lang/String;"⟩ : MethodName) (head1 (Jvm.Cond.code (⟨"java/lang/String", "valueOf", "(C)Ljava/lang/String;"⟩ : MethodName) jdk_42_method_139_code 1 (some (.object "java/lang/String")) :: ws) ({ frames := 2, cells := 2, slots := 5, locals := 27 } : Room)) (fun a U => a = #[(.int p0)] ∧ Z.Warmed39 U.vm ∧ U.heap = h0) (fun _ _ _ _ _ => True) (fun _ U o U' => ∃ v L, o = .returned v ∧ Q8 Z p0 cs h0 n0 v U'.heap L ∧ FrameEnd U o U' L ({ frames := 2, cells := 2, slots := 5, locals := 27 } : Room).cells ({ frames := 2, cells := 2, slots := 5, locals := 27 } : Room).slots) := by
  refine MetFree.of_bodySF (plainFor_of_name own_pn1) hisR ?_
  intro p e s m args below meth c s₁ Bd hml0 hP hK
  obtain ⟨rfl, hZ, hh⟩ := hP
  have hx := Bd.exec
  have hby := Bd.bytes
  have hml : c.maxLocals = 1 := hml0
  have hown : s.vm.findClass "java/lang/String" = some m.cls := findClass_of_methodNamed Bd.named
  have hnm := (name_of_methodNamed Bd.named Bd.method).1
  have X0 : Stand p l e ({ frames := 2, cells := 2, slots := 5, locals := 27 } : Room) s m #[(.int p0)] below meth c s₁ [] 0 0 := Stand.of_body Bd
  have e0 : s₁.heap = h0 := by rw [← hh, Bd.state]; rfl
  have N0 := Fr.nil n0
  have KR : Keep h0 h0 [] := Keep.refl h0 _
  show Good p e below (fun o U' => ∃ v L, o = .returned v ∧ Q8 Z p0 cs h0 n0 v U'.heap L ∧ FrameEnd s o U' L ({ frames := 2, cells := 2, slots := 5, locals := 27 } : Room).cells ({ frames := 2, cells := 2, slots := 5, locals := 27 } : Room).slots) _
  refine Good.back (S' := s₁.setTop (mkF m 0 #[.val (.int p0)] [])) (fun t k => castTop (own_ef_8 m p0) k) ?_
  show Good p e below _ (s₁.setTop (mkF m 0 #[.val (.int p0)] []))
  obtain ⟨T1, X1, e1, st1⟩ := getS2 X0 hx hZ hown (host := "") (Or.inl (hw _ (own_m 18 rfl))) Via.refl e0 S_cs (g := (mkF m 0 #[.val (.int p0)] [])) rfl (hb hby own_d8_0)
  refine Good.back st1 ?_
  show Good p e below _ (T1.setTop (mkF m 3 #[.val (.int p0)] [(.int cs)]))
  refine Good.back (fun _ k => XS.ifNo X1.here hx rfl (hb hby own_d8_3) rfl ((if0 _ _).trans (feq hcs).1) k) ?_
  show Good p e below _ (T1.setTop (mkF m 6 #[.val (.int p0)] []))
  refine Good.back (fun _ k => XS.iloadN X1.here hx rfl (hb hby own_d8_6) rfl k) ?_
  obtain ⟨_, _, ⟨T2, L2, k2, n2⟩, -, X2, ⟨Lc2, hQ2, l2, y2, z2⟩, st2⟩ := Jvm.LawKit.callS X1 hx (y := (⟨"java/lang/StringLatin1", "canEncode", "(C)Z"⟩ : MethodName)) hown (mvT hZ (hw _ (own_m 37 rfl))) (mvT hZ (hw _ (own_m 38 rfl))) (mvT hZ (hw _ (own_m 39 rfl))) (mvT hZ (hw _ (own_m 40 rfl))) (by decide) (backOf (W := 0) (rm9 l Z a0 hw [] p0  h0 n0 Z0 (hle)) hZ (hw _ (own_m 40 rfl)) (hw _ (own_m 39 rfl)) (by decide) (by decide)) (g := (mkF m 7 #[.val (.int p0)] [(.int p0)])) rfl (by rw [hml]; rfl) (argsL := [(.int p0)]) (rest := []) (lenOf own_pd101 rfl) rfl (by show 2 * 0 + _ ≤ _; exact Nat.le_of_eq rfl) (hb hby own_d8_7) (fun _ _ => ⟨rfl, e1, (by decide : 0 + 0 ≤ _), (by decide : 0 + 0 ≤ _)⟩)
  dsimp only [Pt.U, Pt.locs, Pt.cells, Pt.slots] at X2 l2 y2 z2 st2 hQ2
  subst l2 y2 z2
  obtain ⟨rfl, N2q, eh2⟩ := hQ2
  have N2 := Fr.app N0 N2q
  refine Good.back st2 ?_
  show Good p e below _ (T2.setTop (mkF m 10 #[.val (.int p0)] [(.int (1 : Int32))]))
  refine Good.back (fun _ k => XS.ifNo X2.here hx rfl (hb hby own_d8_10) rfl ((if0 _ _).trans (feq (by decide : ¬ ((1 : Int32) = (0 : Int32)))).1) k) ?_
  show Good p e below _ (T2.setTop (mkF m 13 #[.val (.int p0)] []))
  obtain ⟨T3, h3, X3, e3, E3, A3, D3, -, st3⟩ := newO X2 hx hZ hown (hw _ (own_m 41 rfl)) (hw _ (own_m 6 rfl)) (hw _ (own_m 7 rfl)) eh2 (g := (mkF m 13 #[.val (.int p0)] [])) rfl (hb hby own_d8_13) (by decide) (by decide)
  obtain ⟨b3, g3⟩ : ∃ z, z = h0.size := ⟨_, rfl⟩
  rw [← g3] at A3 D3 st3
  refine Good.back st3 ?_
  have g_b3 : n0 ≤ b3 := Nat.le_trans Z0 (Nat.le_of_eq g3.symm)
  have sz_b3 : h0.size ≤ b3 := Nat.le_trans KR.1 (Nat.le_of_eq g3.symm)
  have Z4 : n0 ≤ h3.size := Nat.le_trans Z0 E3.1
  have K5 : Keep h0 h3 [] := KR.ext E3
  have f_6 : Exa Z h3 b3 "java/lang/String" := A3
  have f_7 : Fld Z h3 b3 "java/lang/String" "coder" "B" (.int (0 : Int32)) := D3 (Or.inr (hw _ (own_m 31 rfl))) (ty := .byte) (by decide)
  have f_8 : Fld Z h3 b3 "java/lang/String" "value" "[B" .null := D3 (Or.inr (hw _ (own_m 33 rfl))) (ty := (.array .byte)) (by decide)
  refine Good.back (fun _ k => XS.dup X3.here hx rfl (hb hby own_d8_16) rfl rfl k) ?_
  refine Good.back (fun _ k => XS.iloadN X3.here hx rfl (hb hby own_d8_17) rfl k) ?_
  obtain ⟨_, _, ⟨T9, L9, k9, n9⟩, -, X9, ⟨Lc9, hQ9, l9, y9, z9⟩, st9⟩ := Jvm.LawKit.callS X3 hx (y := (⟨"java/lang/StringLatin1", "toBytes", "(C)[B"⟩ : MethodName)) hown (mvT hZ (hw _ (own_m 42 rfl))) (mvT hZ (hw _ (own_m 43 rfl))) (mvT hZ (hw _ (own_m 39 rfl))) (mvT hZ (hw _ (own_m 44 rfl))) (by decide) (backOf (W := 2) (rm10 l Z a0 hw [] p0  h3 n0 Z4 ) hZ (hw _ (own_m 44 rfl)) (hw _ (own_m 39 rfl)) (by decide) (by decide)) (g := (mkF m 18 #[.val (.int p0)] [(.int p0), (.ref b3), (.ref b3)])) rfl (by rw [hml]; rfl) (argsL := [(.int p0)]) (rest := [(.ref b3), (.ref b3)]) (lenOf own_pd102 rfl) rfl (by show 2 * 0 + _ ≤ _; exact Nat.le_of_eq rfl) (hb hby own_d8_18) (fun _ _ => ⟨rfl, e3, (by decide : 1 + 1 ≤ _), (by decide : 4 + 1 ≤ _)⟩)
  dsimp only [Pt.U, Pt.locs, Pt.cells, Pt.slots] at X9 l9 y9 z9 st9 hQ9
  subst l9 y9 z9
  obtain ⟨ar_9, kk_9, rfl, N9q, Kq9, o9_0, o9_1⟩ := hQ9
  have N9 := Fr.app N2 N9q
  have Z10 : n0 ≤ T9.heap.size := Nat.le_trans Z4 Kq9.1
  have K11 : Keep h0 T9.heap [] := K5.trans Kq9 all0
  have g_ar_9 : n0 ≤ ar_9 := Nat.le_trans Z4 o9_0
  have sz_ar_9 : h0.size ≤ ar_9 := Nat.le_trans K5.1 o9_0
  refine Good.back st9 ?_
  refine Good.back (fun _ k => XS.iconst X9.here hx rfl (hb hby own_d8_21) k) ?_
  have f_13 : Exa Z T9.heap b3 "java/lang/String" := Exa.keep f_6 Kq9
  have f_14 : Fld Z T9.heap b3 "java/lang/String" "value" "[B" .null := Fld.keep f_8 Kq9 nin0
  have f_15 : Fld Z T9.heap b3 "java/lang/String" "coder" "B" (.int (0 : Int32)) := Fld.keep f_7 Kq9 nin0
  obtain ⟨_, _, ⟨T12, L12, k12, n12⟩, -, X12, ⟨Lc12, hQ12, l12, y12, z12⟩, st12⟩ := X9.specialBack hx (y := (⟨"java/lang/String", "<init>", "([BB)V"⟩ : MethodName)) rfl hown (mvT hZ (hw _ (own_m 45 rfl))) (mvT hZ (hw _ (own_m 46 rfl))) (mvT hZ (hw _ (own_m 47 rfl))) (by decide) (backOf (W := 1) (rm11 l Z a0 hw [] b3 ar_9  T9.heap n0 Z10 f_13 g_b3 f_14 f_15) hZ (hw _ (own_m 47 rfl)) (hw _ (own_m 7 rfl)) (by decide) (by decide)) (g := (mkF m 22 #[.val (.int p0)] [(.int (0 : Int32)), (.ref ar_9), (.ref b3), (.ref b3)])) rfl (by rw [hml]; rfl) (Steps.refl _) (a := b3) (argsL := [(.ref ar_9), (.int (0 : Int32))]) (rest := [(.ref b3)]) (lenOf own_pd103 rfl) rfl (by show 2 * 0 + _ ≤ _; exact Nat.le_of_eq rfl) (hb hby own_d8_22) (fun _ _ => ⟨rfl, rfl, (by decide : 2 + 0 ≤ _), (by decide : 5 + 0 ≤ _)⟩)
  dsimp only [Pt.U, Pt.locs, Pt.cells, Pt.slots] at X12 l12 y12 z12 st12 hQ12
  subst l12 y12 z12
  obtain ⟨rfl, N12q, Kq12, o12_0, o12_1⟩ := hQ12
  have N12 := Fr.app N9 N12q
  have Z16 : n0 ≤ T12.heap.size := Nat.le_trans Z10 Kq12.1
  have K17 : Keep h0 T12.heap [] := K11.trans Kq12 (allS (Or.inr sz_b3) all0)
  refine Good.back (fun _ k => st12.trans k) ?_
  show Good p e below _ (T12.setTop (mkF m 25 #[.val (.int p0)] [(.ref b3)]))
  obtain ⟨fs18, hr18, hrun18, hended18, hW18, hsame18⟩ := X12.leave (v := some (.ref b3)) (fun h => by rw [Bd.returns] at h; cases h)
  refine Good.done (retOut X12 hx Bd.returns rfl (Or.inr (Or.inr (Or.inr (Or.inr ⟨rfl, rfl, rfl⟩)))) (hb hby own_d8_25) hr18) hrun18 hended18 ⟨_, _, rfl, ?_, ⟨_, rfl⟩, hW18, hsame18.mono (by decide) (by decide)⟩
  show Q8 Z p0 cs h0 n0 _ T12.heap _
  have f_19 : Exa Z T12.heap b3 "java/lang/String" := Exa.keep f_13 Kq12
  have ne_b3_ar_9_21 : b3 ≠ ar_9 := Nat.ne_of_lt (Nat.lt_of_lt_of_le f_8.lt o9_0)
  have f_20 : Arv Z T12.heap ar_9 kk_9 .byte (1 : Int32) [(.int (p0.toInt8.toInt32).toInt8.toInt32)] (.int (0 : Int32)) := Arv.keep o9_1 Kq12 (ninS (Ne.symm ne_b3_ar_9_21) nin0)
  exact ⟨_, _, _, rfl, N12, K17, sz_b3, sz_ar_9, f_19, o12_0, o12_1, f_20, ne_b3_ar_9_21⟩
theorem own_pn3 : plainName "java/lang/Record" = true := by first | (simp [plainName, overriddenIn]; done) | decide +kernel
theorem own_d13_0 : decode jdk_30_method_1_code 0 = .ok (.aload_n 0, 1) := by decide +kernel
theorem own_d13_1 : decode jdk_30_method_1_code 1 = .ok (.invokespecial 1, 3) := by decide +kernel
theorem own_d13_4 : decode jdk_30_method_1_code 4 = .ok (.return_, 1) := by decide +kernel
theorem own_ef_13 (m : MethodId) (x0 : Addr) : entryFrame m #[(.ref x0)] 1 = mkF m 0 #[.val (.ref x0)] [] := by first | (simp [entryFrame, mkF, argsToLocals, Value.category]; done) | rfl
def Q13 (Z : State) (r0 : Addr) (h0 : Heap) (n0 : Nat) (v : Option Value) (h : Heap) (L : List Loc) : Prop := v = none ∧ Fr n0 L ∧ h = h0
set_option maxRecDepth 65536 in
set_option maxHeartbeats 40000000 in
theorem rm13 (l : Launch) (Z : State) (a0 : Array Value) (hw : ∀ d ∈ tables_1, d.before a0 Z = true) (ws : List Jvm.Cond) (r0 : Addr) (h0 : Heap) (n0 : Nat) (Z0 : n0 ≤ h0.size)  :
    MetFree l (⟨"java/lang/Record", "<init>", "()V"⟩ : MethodName) (head1 (Jvm.Cond.code (⟨"java/lang/Record", "<init>", "()V"⟩ : MethodName) jdk_30_method_1_code 1 none :: ws) ({ frames := 1, cells := 0, slots := 0, locals := 12 } : Room)) (fun a U => a = #[(.ref r0)] ∧ Z.Warmed39 U.vm ∧ U.heap = h0) (fun _ _ _ _ _ => True) (fun _ U o U' => ∃ v L, o = .returned v ∧ Q13 Z r0 h0 n0 v U'.heap L ∧ FrameEnd U o U' L ({ frames := 1, cells := 0, slots := 0, locals := 12 } : Room).cells ({ frames := 1, cells := 0, slots := 0, locals := 12 } : Room).slots) := by
  refine MetFree.of_bodySF (plainFor_of_name own_pn3) hisR ?_
  intro p e s m args below meth c s₁ Bd hml0 hP hK
  obtain ⟨rfl, hZ, hh⟩ := hP
  have hx := Bd.exec
  have hby := Bd.bytes
  have hml : c.maxLocals = 1 := hml0
  have hown : s.vm.findClass "java/lang/Record" = some m.cls := findClass_of_methodNamed Bd.named
  have hnm := (name_of_methodNamed Bd.named Bd.method).1
  have X0 : Stand p l e ({ frames := 1, cells := 0, slots := 0, locals := 12 } : Room) s m #[(.ref r0)] below meth c s₁ [] 0 0 := Stand.of_body Bd
  have e0 : s₁.heap = h0 := by rw [← hh, Bd.state]; rfl
  have N0 := Fr.nil n0
  show Good p e below (fun o U' => ∃ v L, o = .returned v ∧ Q13 Z r0 h0 n0 v U'.heap L ∧ FrameEnd s o U' L ({ frames := 1, cells := 0, slots := 0, locals := 12 } : Room).cells ({ frames := 1, cells := 0, slots := 0, locals := 12 } : Room).slots) _
  refine Good.back (S' := s₁.setTop (mkF m 0 #[.val (.ref r0)] [])) (fun t k => castTop (own_ef_13 m r0) k) ?_
  show Good p e below _ (s₁.setTop (mkF m 0 #[.val (.ref r0)] []))
  refine Good.back (fun _ k => XS.aloadN X0.here hx rfl (hb hby own_d13_0) rfl rfl k) ?_
  obtain ⟨T1, X1, e1, st1⟩ := initO X0 hx hZ hown (hw _ (own_m 62 rfl)) (hw _ (own_m 16 rfl)) (hw _ (own_m 17 rfl)) e0 (g := (mkF m 1 #[.val (.ref r0)] [(.ref r0)])) rfl (by rw [hml]; rfl) rfl (hb hby own_d13_1) (by decide) (W := 0) (by show 2 * 0 + _ ≤ _; exact Nat.le_of_eq rfl) (by decide)
  refine Good.back st1 ?_
  show Good p e below _ (T1.setTop (mkF m 4 #[.val (.ref r0)] []))
  obtain ⟨fs2, hr2, hrun2, hended2, hW2, hsame2⟩ := X1.leave (v := none) (fun _ => rfl)
  refine Good.done (X1.returnOut hx Bd.returns (hb hby own_d13_4) hr2) hrun2 hended2 ⟨_, _, rfl, ?_, ⟨_, rfl⟩, hW2, hsame2.mono (by decide) (by decide)⟩
  show Q13 Z r0 h0 n0 _ T1.heap _
  rw [e1]
  exact ⟨rfl, N0, rfl⟩
theorem own_pn4 : plainName "java/util/AbstractCollection" = true := by first | (simp [plainName, overriddenIn]; done) | decide +kernel
theorem own_d17_0 : decode jdk_22_method_1_code 0 = .ok (.aload_n 0, 1) := by decide +kernel
theorem own_d17_1 : decode jdk_22_method_1_code 1 = .ok (.invokespecial 1, 3) := by decide +kernel
theorem own_d17_4 : decode jdk_22_method_1_code 4 = .ok (.return_, 1) := by decide +kernel
theorem own_ef_17 (m : MethodId) (x0 : Addr) : entryFrame m #[(.ref x0)] 1 = mkF m 0 #[.val (.ref x0)] [] := by first | (simp [entryFrame, mkF, argsToLocals, Value.category]; done) | rfl
def Q17 (Z : State) (r0 : Addr) (h0 : Heap) (n0 : Nat) (v : Option Value) (h : Heap) (L : List Loc) : Prop := v = none ∧ Fr n0 L ∧ h = h0
set_option maxRecDepth 65536 in
set_option maxHeartbeats 40000000 in
theorem rm17 (l : Launch) (Z : State) (a0 : Array Value) (hw : ∀ d ∈ tables_1, d.before a0 Z = true) (ws : List Jvm.Cond) (r0 : Addr) (h0 : Heap) (n0 : Nat) (Z0 : n0 ≤ h0.size)  :
    MetFree l (⟨"java/util/AbstractCollection", "<init>", "()V"⟩ : MethodName) (head1 (Jvm.Cond.code (⟨"java/util/AbstractCollection", "<init>", "()V"⟩ : MethodName) jdk_22_method_1_code 1 none :: ws) ({ frames := 1, cells := 0, slots := 0, locals := 12 } : Room)) (fun a U => a = #[(.ref r0)] ∧ Z.Warmed39 U.vm ∧ U.heap = h0) (fun _ _ _ _ _ => True) (fun _ U o U' => ∃ v L, o = .returned v ∧ Q17 Z r0 h0 n0 v U'.heap L ∧ FrameEnd U o U' L ({ frames := 1, cells := 0, slots := 0, locals := 12 } : Room).cells ({ frames := 1, cells := 0, slots := 0, locals := 12 } : Room).slots) := by
  refine MetFree.of_bodySF (plainFor_of_name own_pn4) hisR ?_
  intro p e s m args below meth c s₁ Bd hml0 hP hK
  obtain ⟨rfl, hZ, hh⟩ := hP
  have hx := Bd.exec
  have hby := Bd.bytes
  have hml : c.maxLocals = 1 := hml0
  have hown : s.vm.findClass "java/util/AbstractCollection" = some m.cls := findClass_of_methodNamed Bd.named
  have hnm := (name_of_methodNamed Bd.named Bd.method).1
  have X0 : Stand p l e ({ frames := 1, cells := 0, slots := 0, locals := 12 } : Room) s m #[(.ref r0)] below meth c s₁ [] 0 0 := Stand.of_body Bd
  have e0 : s₁.heap = h0 := by rw [← hh, Bd.state]; rfl
  have N0 := Fr.nil n0
  show Good p e below (fun o U' => ∃ v L, o = .returned v ∧ Q17 Z r0 h0 n0 v U'.heap L ∧ FrameEnd s o U' L ({ frames := 1, cells := 0, slots := 0, locals := 12 } : Room).cells ({ frames := 1, cells := 0, slots := 0, locals := 12 } : Room).slots) _
  refine Good.back (S' := s₁.setTop (mkF m 0 #[.val (.ref r0)] [])) (fun t k => castTop (own_ef_17 m r0) k) ?_
  show Good p e below _ (s₁.setTop (mkF m 0 #[.val (.ref r0)] []))
  refine Good.back (fun _ k => XS.aloadN X0.here hx rfl (hb hby own_d17_0) rfl rfl k) ?_
  obtain ⟨T1, X1, e1, st1⟩ := initO X0 hx hZ hown (hw _ (own_m 98 rfl)) (hw _ (own_m 16 rfl)) (hw _ (own_m 17 rfl)) e0 (g := (mkF m 1 #[.val (.ref r0)] [(.ref r0)])) rfl (by rw [hml]; rfl) rfl (hb hby own_d17_1) (by decide) (W := 0) (by show 2 * 0 + _ ≤ _; exact Nat.le_of_eq rfl) (by decide)
  refine Good.back st1 ?_
  show Good p e below _ (T1.setTop (mkF m 4 #[.val (.ref r0)] []))
  obtain ⟨fs2, hr2, hrun2, hended2, hW2, hsame2⟩ := X1.leave (v := none) (fun _ => rfl)
  refine Good.done (X1.returnOut hx Bd.returns (hb hby own_d17_4) hr2) hrun2 hended2 ⟨_, _, rfl, ?_, ⟨_, rfl⟩, hW2, hsame2.mono (by decide) (by decide)⟩
  show Q17 Z r0 h0 n0 _ T1.heap _
  rw [e1]
  exact ⟨rfl, N0, rfl⟩
theorem own_pd122 : parseMethodDescriptor "()V" = some ⟨[], none⟩ := by decide +kernel
theorem own_pn5 : plainName "java/util/ImmutableCollections$AbstractImmutableCollection" = true := by first | (simp [plainName, overriddenIn]; done) | decide +kernel
theorem own_d41_0 : decode jdk_47_method_1_code 0 = .ok (.aload_n 0, 1) := by decide +kernel
theorem own_d41_1 : decode jdk_47_method_1_code 1 = .ok (.invokespecial 1, 3) := by decide +kernel
theorem own_d41_4 : decode jdk_47_method_1_code 4 = .ok (.return_, 1) := by decide +kernel
theorem own_ef_41 (m : MethodId) (x0 : Addr) : entryFrame m #[(.ref x0)] 1 = mkF m 0 #[.val (.ref x0)] [] := by first | (simp [entryFrame, mkF, argsToLocals, Value.category]; done) | rfl
def Q41 (Z : State) (r0 : Addr) (h0 : Heap) (n0 : Nat) (v : Option Value) (h : Heap) (L : List Loc) : Prop := v = none ∧ Fr n0 L ∧ h = h0
set_option maxRecDepth 65536 in
set_option maxHeartbeats 40000000 in
theorem rm41 (l : Launch) (Z : State) (a0 : Array Value) (hw : ∀ d ∈ tables_1, d.before a0 Z = true) (ws : List Jvm.Cond) (r0 : Addr) (h0 : Heap) (n0 : Nat) (Z0 : n0 ≤ h0.size)  :
    MetFree l (⟨"java/util/ImmutableCollections$AbstractImmutableCollection", "<init>", "()V"⟩ : MethodName) (head1 (Jvm.Cond.code (⟨"java/util/ImmutableCollections$AbstractImmutableCollection", "<init>", "()V"⟩ : MethodName) jdk_47_method_1_code 1 none :: ws) ({ frames := 2, cells := 0, slots := 0, locals := 24 } : Room)) (fun a U => a = #[(.ref r0)] ∧ Z.Warmed39 U.vm ∧ U.heap = h0) (fun _ _ _ _ _ => True) (fun _ U o U' => ∃ v L, o = .returned v ∧ Q41 Z r0 h0 n0 v U'.heap L ∧ FrameEnd U o U' L ({ frames := 2, cells := 0, slots := 0, locals := 24 } : Room).cells ({ frames := 2, cells := 0, slots := 0, locals := 24 } : Room).slots) := by
  refine MetFree.of_bodySF (plainFor_of_name own_pn5) hisR ?_
  intro p e s m args below meth c s₁ Bd hml0 hP hK
  obtain ⟨rfl, hZ, hh⟩ := hP
  have hx := Bd.exec
  have hby := Bd.bytes
  have hml : c.maxLocals = 1 := hml0
  have hown : s.vm.findClass "java/util/ImmutableCollections$AbstractImmutableCollection" = some m.cls := findClass_of_methodNamed Bd.named
  have hnm := (name_of_methodNamed Bd.named Bd.method).1
  have X0 : Stand p l e ({ frames := 2, cells := 0, slots := 0, locals := 24 } : Room) s m #[(.ref r0)] below meth c s₁ [] 0 0 := Stand.of_body Bd
  have e0 : s₁.heap = h0 := by rw [← hh, Bd.state]; rfl
  have N0 := Fr.nil n0
  show Good p e below (fun o U' => ∃ v L, o = .returned v ∧ Q41 Z r0 h0 n0 v U'.heap L ∧ FrameEnd s o U' L ({ frames := 2, cells := 0, slots := 0, locals := 24 } : Room).cells ({ frames := 2, cells := 0, slots := 0, locals := 24 } : Room).slots) _
  refine Good.back (S' := s₁.setTop (mkF m 0 #[.val (.ref r0)] [])) (fun t k => castTop (own_ef_41 m r0) k) ?_
  show Good p e below _ (s₁.setTop (mkF m 0 #[.val (.ref r0)] []))
  refine Good.back (fun _ k => XS.aloadN X0.here hx rfl (hb hby own_d41_0) rfl rfl k) ?_
  obtain ⟨_, _, ⟨T1, L1, k1, n1⟩, -, X1, ⟨Lc1, hQ1, l1, y1, z1⟩, st1⟩ := X0.specialBack hx (y := (⟨"java/util/AbstractCollection", "<init>", "()V"⟩ : MethodName)) rfl hown (mvT hZ (hw _ (own_m 261 rfl))) (mvT hZ (hw _ (own_m 93 rfl))) (mvT hZ (hw _ (own_m 97 rfl))) (by decide) (backOf (W := 0) (rm17 l Z a0 hw [] r0  h0 n0 Z0 ) hZ (hw _ (own_m 97 rfl)) (hw _ (own_m 96 rfl)) (by decide) (by decide)) (g := (mkF m 1 #[.val (.ref r0)] [(.ref r0)])) rfl (by rw [hml]; rfl) (Steps.refl _) (a := r0) (argsL := []) (rest := []) (lenOf own_pd122 rfl) rfl (by show 2 * 0 + _ ≤ _; exact Nat.le_of_eq rfl) (hb hby own_d41_1) (fun _ _ => ⟨rfl, e0, (by decide : 0 + 0 ≤ _), (by decide : 0 + 0 ≤ _)⟩)
  dsimp only [Pt.U, Pt.locs, Pt.cells, Pt.slots] at X1 l1 y1 z1 st1 hQ1
  subst l1 y1 z1
  obtain ⟨rfl, N1q, eh1⟩ := hQ1
  have N1 := Fr.app N0 N1q
  refine Good.back (fun _ k => st1.trans k) ?_
  show Good p e below _ (T1.setTop (mkF m 4 #[.val (.ref r0)] []))
  obtain ⟨fs2, hr2, hrun2, hended2, hW2, hsame2⟩ := X1.leave (v := none) (fun _ => rfl)
  refine Good.done (X1.returnOut hx Bd.returns (hb hby own_d41_4) hr2) hrun2 hended2 ⟨_, _, rfl, ?_, ⟨_, rfl⟩, hW2, hsame2.mono (by decide) (by decide)⟩
  show Q41 Z r0 h0 n0 _ T1.heap _
  rw [eh1]
  exact ⟨rfl, N1, rfl⟩
theorem own_pn6 : plainName "java/util/ImmutableCollections$AbstractImmutableList" = true := by first | (simp [plainName, overriddenIn]; done) | decide +kernel
theorem own_d40_0 : decode jdk_46_method_1_code 0 = .ok (.aload_n 0, 1) := by decide +kernel
theorem own_d40_1 : decode jdk_46_method_1_code 1 = .ok (.invokespecial 1, 3) := by decide +kernel
theorem own_d40_4 : decode jdk_46_method_1_code 4 = .ok (.return_, 1) := by decide +kernel
theorem own_ef_40 (m : MethodId) (x0 : Addr) : entryFrame m #[(.ref x0)] 1 = mkF m 0 #[.val (.ref x0)] [] := by first | (simp [entryFrame, mkF, argsToLocals, Value.category]; done) | rfl
def Q40 (Z : State) (r0 : Addr) (h0 : Heap) (n0 : Nat) (v : Option Value) (h : Heap) (L : List Loc) : Prop := v = none ∧ Fr n0 L ∧ h = h0
set_option maxRecDepth 65536 in
set_option maxHeartbeats 40000000 in
theorem rm40 (l : Launch) (Z : State) (a0 : Array Value) (hw : ∀ d ∈ tables_1, d.before a0 Z = true) (ws : List Jvm.Cond) (r0 : Addr) (h0 : Heap) (n0 : Nat) (Z0 : n0 ≤ h0.size)  :
    MetFree l (⟨"java/util/ImmutableCollections$AbstractImmutableList", "<init>", "()V"⟩ : MethodName) (head1 (Jvm.Cond.code (⟨"java/util/ImmutableCollections$AbstractImmutableList", "<init>", "()V"⟩ : MethodName) jdk_46_method_1_code 1 none :: ws) ({ frames := 3, cells := 0, slots := 0, locals := 36 } : Room)) (fun a U => a = #[(.ref r0)] ∧ Z.Warmed39 U.vm ∧ U.heap = h0) (fun _ _ _ _ _ => True) (fun _ U o U' => ∃ v L, o = .returned v ∧ Q40 Z r0 h0 n0 v U'.heap L ∧ FrameEnd U o U' L ({ frames := 3, cells := 0, slots := 0, locals := 36 } : Room).cells ({ frames := 3, cells := 0, slots := 0, locals := 36 } : Room).slots) := by
  refine MetFree.of_bodySF (plainFor_of_name own_pn6) hisR ?_
  intro p e s m args below meth c s₁ Bd hml0 hP hK
  obtain ⟨rfl, hZ, hh⟩ := hP
  have hx := Bd.exec
  have hby := Bd.bytes
  have hml : c.maxLocals = 1 := hml0
  have hown : s.vm.findClass "java/util/ImmutableCollections$AbstractImmutableList" = some m.cls := findClass_of_methodNamed Bd.named
  have hnm := (name_of_methodNamed Bd.named Bd.method).1
  have X0 : Stand p l e ({ frames := 3, cells := 0, slots := 0, locals := 36 } : Room) s m #[(.ref r0)] below meth c s₁ [] 0 0 := Stand.of_body Bd
  have e0 : s₁.heap = h0 := by rw [← hh, Bd.state]; rfl
  have N0 := Fr.nil n0
  show Good p e below (fun o U' => ∃ v L, o = .returned v ∧ Q40 Z r0 h0 n0 v U'.heap L ∧ FrameEnd s o U' L ({ frames := 3, cells := 0, slots := 0, locals := 36 } : Room).cells ({ frames := 3, cells := 0, slots := 0, locals := 36 } : Room).slots) _
  refine Good.back (S' := s₁.setTop (mkF m 0 #[.val (.ref r0)] [])) (fun t k => castTop (own_ef_40 m r0) k) ?_
  show Good p e below _ (s₁.setTop (mkF m 0 #[.val (.ref r0)] []))
  refine Good.back (fun _ k => XS.aloadN X0.here hx rfl (hb hby own_d40_0) rfl rfl k) ?_
  obtain ⟨_, _, ⟨T1, L1, k1, n1⟩, -, X1, ⟨Lc1, hQ1, l1, y1, z1⟩, st1⟩ := X0.specialBack hx (y := (⟨"java/util/ImmutableCollections$AbstractImmutableCollection", "<init>", "()V"⟩ : MethodName)) rfl hown (mvT hZ (hw _ (own_m 255 rfl))) (mvT hZ (hw _ (own_m 256 rfl))) (mvT hZ (hw _ (own_m 260 rfl))) (by decide) (backOf (W := 0) (rm41 l Z a0 hw [] r0  h0 n0 Z0 ) hZ (hw _ (own_m 260 rfl)) (hw _ (own_m 259 rfl)) (by decide) (by decide)) (g := (mkF m 1 #[.val (.ref r0)] [(.ref r0)])) rfl (by rw [hml]; rfl) (Steps.refl _) (a := r0) (argsL := []) (rest := []) (lenOf own_pd122 rfl) rfl (by show 2 * 0 + _ ≤ _; exact Nat.le_of_eq rfl) (hb hby own_d40_1) (fun _ _ => ⟨rfl, e0, (by decide : 0 + 0 ≤ _), (by decide : 0 + 0 ≤ _)⟩)
  dsimp only [Pt.U, Pt.locs, Pt.cells, Pt.slots] at X1 l1 y1 z1 st1 hQ1
  subst l1 y1 z1
  obtain ⟨rfl, N1q, eh1⟩ := hQ1
  have N1 := Fr.app N0 N1q
  refine Good.back (fun _ k => st1.trans k) ?_
  show Good p e below _ (T1.setTop (mkF m 4 #[.val (.ref r0)] []))
  obtain ⟨fs2, hr2, hrun2, hended2, hW2, hsame2⟩ := X1.leave (v := none) (fun _ => rfl)
  refine Good.done (X1.returnOut hx Bd.returns (hb hby own_d40_4) hr2) hrun2 hended2 ⟨_, _, rfl, ?_, ⟨_, rfl⟩, hW2, hsame2.mono (by decide) (by decide)⟩
  show Q40 Z r0 h0 n0 _ T1.heap _
  rw [eh1]
  exact ⟨rfl, N1, rfl⟩
theorem own_pn7 : plainName "java/util/Objects" = true := by first | (simp [plainName, overriddenIn]; done) | decide +kernel
theorem own_d14_0 : decode jdk_31_method_11_code 0 = .ok (.aload_n 0, 1) := by decide +kernel
theorem own_d14_1 : decode jdk_31_method_11_code 1 = .ok (.ifnonnull 12, 3) := by decide +kernel
theorem own_d14_13 : decode jdk_31_method_11_code 13 = .ok (.aload_n 0, 1) := by decide +kernel
theorem own_d14_14 : decode jdk_31_method_11_code 14 = .ok (.areturn, 1) := by decide +kernel
theorem own_ef_14 (m : MethodId) (x0 : Addr) (x1 : Addr) : entryFrame m #[(.ref x0), (.ref x1)] 2 = mkF m 0 #[.val (.ref x0), .val (.ref x1)] [] := by first | (simp [entryFrame, mkF, argsToLocals, Value.category]; done) | rfl
def Q14 (Z : State) (r0 : Addr) (r1 : Addr) (h0 : Heap) (n0 : Nat) (v : Option Value) (h : Heap) (L : List Loc) : Prop := v = some (.ref r0) ∧ Fr n0 L ∧ h = h0
set_option maxRecDepth 65536 in
set_option maxHeartbeats 40000000 in
theorem rm14 (l : Launch) (Z : State) (a0 : Array Value) (hw : ∀ d ∈ tables_1, d.before a0 Z = true) (ws : List Jvm.Cond) (r0 : Addr) (r1 : Addr) (h0 : Heap) (n0 : Nat) (Z0 : n0 ≤ h0.size)  :
    MetFree l (⟨"java/util/Objects", "requireNonNull", "(Ljava/lang/Object;Ljava/lang/String;)Ljava/lang/Object;"⟩ : MethodName) (head1 (Jvm.Cond.code (⟨"java/util/Objects", "requireNonNull", "(Ljava/lang/Object;Ljava/lang/String;)Ljava/lang/Object;"⟩ : MethodName) jdk_31_method_11_code 2 (some (.object "java/lang/Object")) :: ws) ({ frames := 0, cells := 0, slots := 0, locals := 0 } : Room)) (fun a U => a = #[(.ref r0), (.ref r1)] ∧ Z.Warmed39 U.vm ∧ U.heap = h0) (fun _ _ _ _ _ => True) (fun _ U o U' => ∃ v L, o = .returned v ∧ Q14 Z r0 r1 h0 n0 v U'.heap L ∧ FrameEnd U o U' L ({ frames := 0, cells := 0, slots := 0, locals := 0 } : Room).cells ({ frames := 0, cells := 0, slots := 0, locals := 0 } : Room).slots) := by
  refine MetFree.of_bodySF (plainFor_of_name own_pn7) hisR ?_
  intro p e s m args below meth c s₁ Bd hml0 hP hK
  obtain ⟨rfl, hZ, hh⟩ := hP
  have hx := Bd.exec
  have hby := Bd.bytes
  have hml : c.maxLocals = 2 := hml0
  have hown : s.vm.findClass "java/util/Objects" = some m.cls := findClass_of_methodNamed Bd.named
  have hnm := (name_of_methodNamed Bd.named Bd.method).1
  have X0 : Stand p l e ({ frames := 0, cells := 0, slots := 0, locals := 0 } : Room) s m #[(.ref r0), (.ref r1)] below meth c s₁ [] 0 0 := Stand.of_body Bd
  have e0 : s₁.heap = h0 := by rw [← hh, Bd.state]; rfl
  have N0 := Fr.nil n0
  show Good p e below (fun o U' => ∃ v L, o = .returned v ∧ Q14 Z r0 r1 h0 n0 v U'.heap L ∧ FrameEnd s o U' L ({ frames := 0, cells := 0, slots := 0, locals := 0 } : Room).cells ({ frames := 0, cells := 0, slots := 0, locals := 0 } : Room).slots) _
  refine Good.back (S' := s₁.setTop (mkF m 0 #[.val (.ref r0), .val (.ref r1)] [])) (fun t k => castTop (own_ef_14 m r0 r1) k) ?_
  show Good p e below _ (s₁.setTop (mkF m 0 #[.val (.ref r0), .val (.ref r1)] []))
  refine Good.back (fun _ k => XS.aloadN X0.here hx rfl (hb hby own_d14_0) rfl rfl k) ?_
  show Good p e below _ (s₁.setTop (mkF m 1 #[.val (.ref r0), .val (.ref r1)] [(.ref r0)]))
  refine Good.back (fun _ k => XS.ifnonnullYes X0.here hx rfl (pc0 := 1) (pc' := 13) rfl (hb hby own_d14_1) rfl (by decide) (by decide) k) ?_
  show Good p e below _ (s₁.setTop (mkF m 13 #[.val (.ref r0), .val (.ref r1)] []))
  refine Good.back (fun _ k => XS.aloadN X0.here hx rfl (hb hby own_d14_13) rfl rfl k) ?_
  show Good p e below _ (s₁.setTop (mkF m 14 #[.val (.ref r0), .val (.ref r1)] [(.ref r0)]))
  obtain ⟨fs1, hr1, hrun1, hended1, hW1, hsame1⟩ := X0.leave (v := some (.ref r0)) (fun h => by rw [Bd.returns] at h; cases h)
  refine Good.done (retOut X0 hx Bd.returns rfl (Or.inr (Or.inr (Or.inr (Or.inr ⟨rfl, rfl, rfl⟩)))) (hb hby own_d14_14) hr1) hrun1 hended1 ⟨_, _, rfl, ?_, ⟨_, rfl⟩, hW1, hsame1.mono (by decide) (by decide)⟩
  show Q14 Z r0 r1 h0 n0 _ s₁.heap _
  rw [e0]
  exact ⟨rfl, N0, rfl⟩
theorem own_d42_0 : decode jdk_31_method_10_code 0 = .ok (.aload_n 0, 1) := by decide +kernel
theorem own_d42_1 : decode jdk_31_method_10_code 1 = .ok (.ifnonnull 11, 3) := by decide +kernel
theorem own_d42_12 : decode jdk_31_method_10_code 12 = .ok (.aload_n 0, 1) := by decide +kernel
theorem own_d42_13 : decode jdk_31_method_10_code 13 = .ok (.areturn, 1) := by decide +kernel
theorem own_ef_42 (m : MethodId) (x0 : Addr) : entryFrame m #[(.ref x0)] 1 = mkF m 0 #[.val (.ref x0)] [] := by first | (simp [entryFrame, mkF, argsToLocals, Value.category]; done) | rfl
def Q42 (Z : State) (r0 : Addr) (h0 : Heap) (n0 : Nat) (v : Option Value) (h : Heap) (L : List Loc) : Prop := v = some (.ref r0) ∧ Fr n0 L ∧ h = h0
set_option maxRecDepth 65536 in
set_option maxHeartbeats 40000000 in
theorem rm42 (l : Launch) (Z : State) (a0 : Array Value) (hw : ∀ d ∈ tables_1, d.before a0 Z = true) (ws : List Jvm.Cond) (r0 : Addr) (h0 : Heap) (n0 : Nat) (Z0 : n0 ≤ h0.size)  :
    MetFree l (⟨"java/util/Objects", "requireNonNull", "(Ljava/lang/Object;)Ljava/lang/Object;"⟩ : MethodName) (head1 (Jvm.Cond.code (⟨"java/util/Objects", "requireNonNull", "(Ljava/lang/Object;)Ljava/lang/Object;"⟩ : MethodName) jdk_31_method_10_code 1 (some (.object "java/lang/Object")) :: ws) ({ frames := 0, cells := 0, slots := 0, locals := 0 } : Room)) (fun a U => a = #[(.ref r0)] ∧ Z.Warmed39 U.vm ∧ U.heap = h0) (fun _ _ _ _ _ => True) (fun _ U o U' => ∃ v L, o = .returned v ∧ Q42 Z r0 h0 n0 v U'.heap L ∧ FrameEnd U o U' L ({ frames := 0, cells := 0, slots := 0, locals := 0 } : Room).cells ({ frames := 0, cells := 0, slots := 0, locals := 0 } : Room).slots) := by
  refine MetFree.of_bodySF (plainFor_of_name own_pn7) hisR ?_
  intro p e s m args below meth c s₁ Bd hml0 hP hK
  obtain ⟨rfl, hZ, hh⟩ := hP
  have hx := Bd.exec
  have hby := Bd.bytes
  have hml : c.maxLocals = 1 := hml0
  have hown : s.vm.findClass "java/util/Objects" = some m.cls := findClass_of_methodNamed Bd.named
  have hnm := (name_of_methodNamed Bd.named Bd.method).1
  have X0 : Stand p l e ({ frames := 0, cells := 0, slots := 0, locals := 0 } : Room) s m #[(.ref r0)] below meth c s₁ [] 0 0 := Stand.of_body Bd
  have e0 : s₁.heap = h0 := by rw [← hh, Bd.state]; rfl
  have N0 := Fr.nil n0
  show Good p e below (fun o U' => ∃ v L, o = .returned v ∧ Q42 Z r0 h0 n0 v U'.heap L ∧ FrameEnd s o U' L ({ frames := 0, cells := 0, slots := 0, locals := 0 } : Room).cells ({ frames := 0, cells := 0, slots := 0, locals := 0 } : Room).slots) _
  refine Good.back (S' := s₁.setTop (mkF m 0 #[.val (.ref r0)] [])) (fun t k => castTop (own_ef_42 m r0) k) ?_
  show Good p e below _ (s₁.setTop (mkF m 0 #[.val (.ref r0)] []))
  refine Good.back (fun _ k => XS.aloadN X0.here hx rfl (hb hby own_d42_0) rfl rfl k) ?_
  show Good p e below _ (s₁.setTop (mkF m 1 #[.val (.ref r0)] [(.ref r0)]))
  refine Good.back (fun _ k => XS.ifnonnullYes X0.here hx rfl (pc0 := 1) (pc' := 12) rfl (hb hby own_d42_1) rfl (by decide) (by decide) k) ?_
  show Good p e below _ (s₁.setTop (mkF m 12 #[.val (.ref r0)] []))
  refine Good.back (fun _ k => XS.aloadN X0.here hx rfl (hb hby own_d42_12) rfl rfl k) ?_
  show Good p e below _ (s₁.setTop (mkF m 13 #[.val (.ref r0)] [(.ref r0)]))
  obtain ⟨fs1, hr1, hrun1, hended1, hW1, hsame1⟩ := X0.leave (v := some (.ref r0)) (fun h => by rw [Bd.returns] at h; cases h)
  refine Good.done (retOut X0 hx Bd.returns rfl (Or.inr (Or.inr (Or.inr (Or.inr ⟨rfl, rfl, rfl⟩)))) (hb hby own_d42_13) hr1) hrun1 hended1 ⟨_, _, rfl, ?_, ⟨_, rfl⟩, hW1, hsame1.mono (by decide) (by decide)⟩
  show Q42 Z r0 h0 n0 _ s₁.heap _
  rw [e0]
  exact ⟨rfl, N0, rfl⟩
theorem own_pd137 : parseMethodDescriptor "(Ljava/lang/Object;Ljava/lang/String;)Ljava/lang/Object;" = some ⟨[(.object "java/lang/Object"), (.object "java/lang/String")], some (.object "java/lang/Object")⟩ := by decide +kernel
theorem own_pn8 : plainName "com/example/liken/liken/core/Token" = true := by first | (simp [plainName, overriddenIn]; done) | decide +kernel
theorem own_d12_0 : decode prog_43_method_1_code 0 = .ok (.aload_n 0, 1) := by decide +kernel
theorem own_d12_1 : decode prog_43_method_1_code 1 = .ok (.invokespecial 1, 3) := by decide +kernel
theorem own_d12_4 : decode prog_43_method_1_code 4 = .ok (.aload_n 1, 1) := by decide +kernel
theorem own_d12_5 : decode prog_43_method_1_code 5 = .ok (.ldc 7, 2) := by decide +kernel
theorem own_d12_7 : decode prog_43_method_1_code 7 = .ok (.invokestatic 9, 3) := by decide +kernel
theorem own_d12_10 : decode prog_43_method_1_code 10 = .ok (.pop, 1) := by decide +kernel
theorem own_d12_11 : decode prog_43_method_1_code 11 = .ok (.aload_n 2, 1) := by decide +kernel
theorem own_d12_12 : decode prog_43_method_1_code 12 = .ok (.ldc 15, 2) := by decide +kernel
theorem own_d12_14 : decode prog_43_method_1_code 14 = .ok (.invokestatic 9, 3) := by decide +kernel
theorem own_d12_17 : decode prog_43_method_1_code 17 = .ok (.pop, 1) := by decide +kernel
theorem own_d12_18 : decode prog_43_method_1_code 18 = .ok (.aload_n 3, 1) := by decide +kernel
theorem own_d12_19 : decode prog_43_method_1_code 19 = .ok (.ldc 17, 2) := by decide +kernel
theorem own_d12_21 : decode prog_43_method_1_code 21 = .ok (.invokestatic 9, 3) := by decide +kernel
theorem own_d12_24 : decode prog_43_method_1_code 24 = .ok (.pop, 1) := by decide +kernel
theorem own_d12_25 : decode prog_43_method_1_code 25 = .ok (.iload 4, 2) := by decide +kernel
theorem own_d12_27 : decode prog_43_method_1_code 27 = .ok (.iconst 1, 1) := by decide +kernel
theorem own_d12_28 : decode prog_43_method_1_code 28 = .ok (.if_icmp .ge 18, 3) := by decide +kernel
theorem own_d12_46 : decode prog_43_method_1_code 46 = .ok (.aload_n 0, 1) := by decide +kernel
theorem own_d12_47 : decode prog_43_method_1_code 47 = .ok (.aload_n 1, 1) := by decide +kernel
theorem own_d12_48 : decode prog_43_method_1_code 48 = .ok (.putfield 28, 3) := by decide +kernel
theorem own_d12_51 : decode prog_43_method_1_code 51 = .ok (.aload_n 0, 1) := by decide +kernel
theorem own_d12_52 : decode prog_43_method_1_code 52 = .ok (.aload_n 2, 1) := by decide +kernel
theorem own_d12_53 : decode prog_43_method_1_code 53 = .ok (.putfield 33, 3) := by decide +kernel
theorem own_d12_56 : decode prog_43_method_1_code 56 = .ok (.aload_n 0, 1) := by decide +kernel
theorem own_d12_57 : decode prog_43_method_1_code 57 = .ok (.aload_n 3, 1) := by decide +kernel
theorem own_d12_58 : decode prog_43_method_1_code 58 = .ok (.putfield 35, 3) := by decide +kernel
theorem own_d12_61 : decode prog_43_method_1_code 61 = .ok (.aload_n 0, 1) := by decide +kernel
theorem own_d12_62 : decode prog_43_method_1_code 62 = .ok (.iload 4, 2) := by decide +kernel
theorem own_d12_64 : decode prog_43_method_1_code 64 = .ok (.putfield 38, 3) := by decide +kernel
theorem own_d12_67 : decode prog_43_method_1_code 67 = .ok (.return_, 1) := by decide +kernel
theorem own_ef_12 (m : MethodId) (x0 : Addr) (x1 : Addr) (x2 : Addr) (x3 : Addr) (x4 : Int32) : entryFrame m #[(.ref x0), (.ref x1), (.ref x2), (.ref x3), (.int x4)] 5 = mkF m 0 #[.val (.ref x0), .val (.ref x1), .val (.ref x2), .val (.ref x3), .val (.int x4)] [] := by first | (simp [entryFrame, mkF, argsToLocals, Value.category]; done) | rfl
def Q12 (Z : State) (r0 : Addr) (r1 : Addr) (r2 : Addr) (r3 : Addr) (p4 : Int32) (h0 : Heap) (n0 : Nat) (v : Option Value) (h : Heap) (L : List Loc) : Prop := v = none ∧ Fr n0 L ∧ Keep h0 h [r0]
set_option maxRecDepth 65536 in
set_option maxHeartbeats 40000000 in
theorem rm12 (l : Launch) (Z : State) (a0 : Array Value) (hw : ∀ d ∈ tables_1, d.before a0 Z = true) (ws : List Jvm.Cond) (r0 : Addr) (r1 : Addr) (r2 : Addr) (r3 : Addr) (p4 : Int32) (h0 : Heap) (n0 : Nat) (Z0 : n0 ≤ h0.size) (E0 : Exa Z h0 r0 "com/example/liken/liken/core/Token") (g0 : n0 ≤ r0) (F_r0_text : Fld Z h0 r0 "com/example/liken/liken/core/Token" "text" "Ljava/lang/String;" .null) (F_r0_kind : Fld Z h0 r0 "com/example/liken/liken/core/Token" "kind" "Ljava/lang/String;" .null) (F_r0_abstraction : Fld Z h0 r0 "com/example/liken/liken/core/Token" "abstraction" "Lcom/example/liken/liken/core/Token$Abstraction;" .null) (F_r0_line : Fld Z h0 r0 "com/example/liken/liken/core/Token" "line" "I" (.int (0 : Int32))) (hln : ¬ (p4 < (1 : Int32))) :
    MetFree l (⟨"com/example/liken/liken/core/Token", "<init>", "(Ljava/lang/String;Ljava/lang/String;Lcom/example/liken/liken/core/Token$Abstraction;I)V"⟩ : MethodName) (head1 (Jvm.Cond.code (⟨"com/example/liken/liken/core/Token", "<init>", "(Ljava/lang/String;Ljava/lang/String;Lcom/example/liken/liken/core/Token$Abstraction;I)V"⟩ : MethodName) prog_43_method_1_code 5 none :: ws) ({ frames := 2, cells := 6, slots := 88, locals := 24 } : Room)) (fun a U => a = #[(.ref r0), (.ref r1), (.ref r2), (.ref r3), (.int p4)] ∧ Z.Warmed39 U.vm ∧ U.heap = h0) (fun _ _ _ _ _ => True) (fun _ U o U' => ∃ v L, o = .returned v ∧ Q12 Z r0 r1 r2 r3 p4 h0 n0 v U'.heap L ∧ ReturnedEndW U o U' L ({ frames := 2, cells := 6, slots := 88, locals := 24 } : Room).cells ({ frames := 2, cells := 6, slots := 88, locals := 24 } : Room).slots) := by
  refine MetFree.of_bodySF (plainFor_of_name own_pn8) hisR ?_
  intro p e s m args below meth c s₁ Bd hml0 hP hK
  obtain ⟨rfl, hZ, hh⟩ := hP
  have hx := Bd.exec
  have hby := Bd.bytes
  have hml : c.maxLocals = 5 := hml0
  have hown : s.vm.findClass "com/example/liken/liken/core/Token" = some m.cls := findClass_of_methodNamed Bd.named
  have hnm := (name_of_methodNamed Bd.named Bd.method).1
  have X0 : Stand p l e ({ frames := 2, cells := 6, slots := 88, locals := 24 } : Room) s m #[(.ref r0), (.ref r1), (.ref r2), (.ref r3), (.int p4)] below meth c s₁ [] 0 0 := Stand.of_body Bd
  have e0 : s₁.heap = h0 := by rw [← hh, Bd.state]; rfl
  have N0 := Fr.nil n0
  have X0c : Stand p l e ({ frames := 2, cells := 6, slots := 88, locals := 24 } : Room) (s.setVm s.vm) m #[(.ref r0), (.ref r1), (.ref r2), (.ref r3), (.int p4)] below meth c s₁ [] 0 0 := X0
  have hS0 : s.Since s.vm 0 := (State.WarmedH.refl s).since 0
  have hk0 : 0 ≤ h0.size := Nat.zero_le _
  have hZ0 : Z.Warmed39 (s.setVm s.vm).vm := hZ
  have hown0 : (s.setVm s.vm).vm.findClass "com/example/liken/liken/core/Token" = some m.cls := hown
  have KR : Keep h0 h0 [r0] := Keep.refl h0 _
  show Good p e below (fun o U' => ∃ v L, o = .returned v ∧ Q12 Z r0 r1 r2 r3 p4 h0 n0 v U'.heap L ∧ ReturnedEndW s o U' L ({ frames := 2, cells := 6, slots := 88, locals := 24 } : Room).cells ({ frames := 2, cells := 6, slots := 88, locals := 24 } : Room).slots) _
  refine Good.back (S' := s₁.setTop (mkF m 0 #[.val (.ref r0), .val (.ref r1), .val (.ref r2), .val (.ref r3), .val (.int p4)] [])) (fun t k => castTop (own_ef_12 m r0 r1 r2 r3 p4) k) ?_
  show Good p e below _ (s₁.setTop (mkF m 0 #[.val (.ref r0), .val (.ref r1), .val (.ref r2), .val (.ref r3), .val (.int p4)] []))
  refine Good.back (fun _ k => XS.aloadN X0c.here hx rfl (hb hby own_d12_0) rfl rfl k) ?_
  obtain ⟨_, _, ⟨T1, L1, k1, n1⟩, -, X1, ⟨Lc1, hQ1, l1, y1, z1⟩, st1⟩ := X0c.specialBack hx (y := (⟨"java/lang/Record", "<init>", "()V"⟩ : MethodName)) rfl hown0 (mvT hZ0 (hw _ (own_m 57 rfl))) (mvT hZ0 (hw _ (own_m 58 rfl))) (mvT hZ0 (hw _ (own_m 61 rfl))) (by decide) (backOf (W := 0) (rm13 l Z a0 hw [] r0  h0 n0 Z0 ) hZ0 (hw _ (own_m 61 rfl)) (hw _ (own_m 60 rfl)) (by decide) (by decide)) (g := (mkF m 1 #[.val (.ref r0), .val (.ref r1), .val (.ref r2), .val (.ref r3), .val (.int p4)] [(.ref r0)])) rfl (by rw [hml]; rfl) (Steps.refl _) (a := r0) (argsL := []) (rest := []) (lenOf own_pd122 rfl) rfl (by show 2 * 0 + _ ≤ _; exact Nat.le_of_eq rfl) (hb hby own_d12_1) (fun _ _ => ⟨rfl, e0, (by decide : 0 + 0 ≤ _), (by decide : 0 + 0 ≤ _)⟩)
  dsimp only [Pt.U, Pt.locs, Pt.cells, Pt.slots] at X1 l1 y1 z1 st1 hQ1
  subst l1 y1 z1
  obtain ⟨rfl, N1q, eh1⟩ := hQ1
  have N1 := Fr.app N0 N1q
  refine Good.back (fun _ k => st1.trans k) ?_
  refine Good.back (fun _ k => XS.aloadN X1.here hx rfl (hb hby own_d12_4) rfl rfl k) ?_
  show Good p e below _ (T1.setTop (mkF m 5 #[.val (.ref r0), .val (.ref r1), .val (.ref r2), .val (.ref r3), .val (.int p4)] [(.ref r1)]))
  obtain ⟨a2, T2, h2, kc2, X2, e2, E2, hS2, hk2, hZ2, hown2, st2⟩ := ldcS X1 hx hZ0 hown0 (hw _ (own_m 63 rfl)) (own_wS hw) eh1 hS0 hk0 (g := (mkF m 5 #[.val (.ref r0), .val (.ref r1), .val (.ref r2), .val (.ref r3), .val (.int p4)] [(.ref r1)])) rfl (hb hby own_d12_5) (n := 16) (by decide +kernel) (by decide) (by decide) (by decide)
  refine Good.back st2 ?_
  have Z3 : n0 ≤ h2.size := Nat.le_trans Z0 E2.1
  have hk4 := Nat.le_trans hk0 E2.1
  have K5 : Keep h0 h2 [r0] := KR.ext E2
  show Good p e below _ (T2.setTop (mkF m 7 #[.val (.ref r0), .val (.ref r1), .val (.ref r2), .val (.ref r3), .val (.int p4)] [(.ref a2), (.ref r1)]))
  obtain ⟨_, _, ⟨T6, L6, k6, n6⟩, -, X6, ⟨Lc6, hQ6, l6, y6, z6⟩, st6⟩ := Jvm.LawKit.callS X2 hx (y := (⟨"java/util/Objects", "requireNonNull", "(Ljava/lang/Object;Ljava/lang/String;)Ljava/lang/Object;"⟩ : MethodName)) hown2 (mvT hZ2 (hw _ (own_m 66 rfl))) (mvT hZ2 (hw _ (own_m 67 rfl))) (mvT hZ2 (hw _ (own_m 68 rfl))) (mvT hZ2 (hw _ (own_m 69 rfl))) (by decide) (backOf (W := 0) (rm14 l Z a0 hw [] r1 a2  h2 n0 Z3 ) hZ2 (hw _ (own_m 69 rfl)) (hw _ (own_m 68 rfl)) (by decide) (by decide)) (g := (mkF m 7 #[.val (.ref r0), .val (.ref r1), .val (.ref r2), .val (.ref r3), .val (.int p4)] [(.ref a2), (.ref r1)])) rfl (by rw [hml]; rfl) (argsL := [(.ref r1), (.ref a2)]) (rest := []) (lenOf own_pd137 rfl) rfl (by show 2 * 0 + _ ≤ _; exact Nat.le_of_eq rfl) (hb hby own_d12_7) (fun _ _ => ⟨rfl, e2, (by decide : 2 + 0 ≤ _), (by decide : 20 + 0 ≤ _)⟩)
  dsimp only [Pt.U, Pt.locs, Pt.cells, Pt.slots] at X6 l6 y6 z6 st6 hQ6
  subst l6 y6 z6
  obtain ⟨rfl, N6q, eh6⟩ := hQ6
  have N6 := Fr.app N1 N6q
  refine Good.back st6 ?_
  show Good p e below _ (T6.setTop (mkF m 10 #[.val (.ref r0), .val (.ref r1), .val (.ref r2), .val (.ref r3), .val (.int p4)] [(.ref r1)]))
  refine Good.back (fun _ k => XS.pop X6.here hx rfl (hb hby own_d12_10) rfl rfl k) ?_
  refine Good.back (fun _ k => XS.aloadN X6.here hx rfl (hb hby own_d12_11) rfl rfl k) ?_
  show Good p e below _ (T6.setTop (mkF m 12 #[.val (.ref r0), .val (.ref r1), .val (.ref r2), .val (.ref r3), .val (.int p4)] [(.ref r2)]))
  obtain ⟨a7, T7, h7, kc7, X7, e7, E7, hS7, hk7, hZ7, hown7, st7⟩ := ldcS X6 hx hZ2 hown2 (hw _ (own_m 70 rfl)) (own_wS hw) eh6 hS2 hk2 (g := (mkF m 12 #[.val (.ref r0), .val (.ref r1), .val (.ref r2), .val (.ref r3), .val (.int p4)] [(.ref r2)])) rfl (hb hby own_d12_12) (n := 16) (by decide +kernel) (by decide) (by decide) (by decide)
  refine Good.back st7 ?_
  have Z8 : n0 ≤ h7.size := Nat.le_trans Z3 E7.1
  have hk9 := Nat.le_trans hk2 E7.1
  have K10 : Keep h0 h7 [r0] := K5.ext E7
  show Good p e below _ (T7.setTop (mkF m 14 #[.val (.ref r0), .val (.ref r1), .val (.ref r2), .val (.ref r3), .val (.int p4)] [(.ref a7), (.ref r2)]))
  obtain ⟨_, _, ⟨T11, L11, k11, n11⟩, -, X11, ⟨Lc11, hQ11, l11, y11, z11⟩, st11⟩ := Jvm.LawKit.callS X7 hx (y := (⟨"java/util/Objects", "requireNonNull", "(Ljava/lang/Object;Ljava/lang/String;)Ljava/lang/Object;"⟩ : MethodName)) hown7 (mvT hZ7 (hw _ (own_m 66 rfl))) (mvT hZ7 (hw _ (own_m 67 rfl))) (mvT hZ7 (hw _ (own_m 68 rfl))) (mvT hZ7 (hw _ (own_m 69 rfl))) (by decide) (backOf (W := 0) (rm14 l Z a0 hw [] r2 a7  h7 n0 Z8 ) hZ7 (hw _ (own_m 69 rfl)) (hw _ (own_m 68 rfl)) (by decide) (by decide)) (g := (mkF m 14 #[.val (.ref r0), .val (.ref r1), .val (.ref r2), .val (.ref r3), .val (.int p4)] [(.ref a7), (.ref r2)])) rfl (by rw [hml]; rfl) (argsL := [(.ref r2), (.ref a7)]) (rest := []) (lenOf own_pd137 rfl) rfl (by show 2 * 0 + _ ≤ _; exact Nat.le_of_eq rfl) (hb hby own_d12_14) (fun _ _ => ⟨rfl, e7, (by decide : 4 + 0 ≤ _), (by decide : 40 + 0 ≤ _)⟩)
  dsimp only [Pt.U, Pt.locs, Pt.cells, Pt.slots] at X11 l11 y11 z11 st11 hQ11
  subst l11 y11 z11
  obtain ⟨rfl, N11q, eh11⟩ := hQ11
  have N11 := Fr.app N6 N11q
  refine Good.back st11 ?_
  show Good p e below _ (T11.setTop (mkF m 17 #[.val (.ref r0), .val (.ref r1), .val (.ref r2), .val (.ref r3), .val (.int p4)] [(.ref r2)]))
  refine Good.back (fun _ k => XS.pop X11.here hx rfl (hb hby own_d12_17) rfl rfl k) ?_
  refine Good.back (fun _ k => XS.aloadN X11.here hx rfl (hb hby own_d12_18) rfl rfl k) ?_
  show Good p e below _ (T11.setTop (mkF m 19 #[.val (.ref r0), .val (.ref r1), .val (.ref r2), .val (.ref r3), .val (.int p4)] [(.ref r3)]))
  obtain ⟨a12, T12, h12, kc12, X12, e12, E12, hS12, hk12, hZ12, hown12, st12⟩ := ldcS X11 hx hZ7 hown7 (hw _ (own_m 71 rfl)) (own_wS hw) eh11 hS7 hk7 (g := (mkF m 19 #[.val (.ref r0), .val (.ref r1), .val (.ref r2), .val (.ref r3), .val (.int p4)] [(.ref r3)])) rfl (hb hby own_d12_19) (n := 44) (by decide +kernel) (by decide) (by decide) (by decide)
  refine Good.back st12 ?_
  have Z13 : n0 ≤ h12.size := Nat.le_trans Z8 E12.1
  have hk14 := Nat.le_trans hk7 E12.1
  have K15 : Keep h0 h12 [r0] := K10.ext E12
  show Good p e below _ (T12.setTop (mkF m 21 #[.val (.ref r0), .val (.ref r1), .val (.ref r2), .val (.ref r3), .val (.int p4)] [(.ref a12), (.ref r3)]))
  obtain ⟨_, _, ⟨T16, L16, k16, n16⟩, -, X16, ⟨Lc16, hQ16, l16, y16, z16⟩, st16⟩ := Jvm.LawKit.callS X12 hx (y := (⟨"java/util/Objects", "requireNonNull", "(Ljava/lang/Object;Ljava/lang/String;)Ljava/lang/Object;"⟩ : MethodName)) hown12 (mvT hZ12 (hw _ (own_m 66 rfl))) (mvT hZ12 (hw _ (own_m 67 rfl))) (mvT hZ12 (hw _ (own_m 68 rfl))) (mvT hZ12 (hw _ (own_m 69 rfl))) (by decide) (backOf (W := 0) (rm14 l Z a0 hw [] r3 a12  h12 n0 Z13 ) hZ12 (hw _ (own_m 69 rfl)) (hw _ (own_m 68 rfl)) (by decide) (by decide)) (g := (mkF m 21 #[.val (.ref r0), .val (.ref r1), .val (.ref r2), .val (.ref r3), .val (.int p4)] [(.ref a12), (.ref r3)])) rfl (by rw [hml]; rfl) (argsL := [(.ref r3), (.ref a12)]) (rest := []) (lenOf own_pd137 rfl) rfl (by show 2 * 0 + _ ≤ _; exact Nat.le_of_eq rfl) (hb hby own_d12_21) (fun _ _ => ⟨rfl, e12, (by decide : 6 + 0 ≤ _), (by decide : 88 + 0 ≤ _)⟩)
  dsimp only [Pt.U, Pt.locs, Pt.cells, Pt.slots] at X16 l16 y16 z16 st16 hQ16
  subst l16 y16 z16
  obtain ⟨rfl, N16q, eh16⟩ := hQ16
  have N16 := Fr.app N11 N16q
  refine Good.back st16 ?_
  show Good p e below _ (T16.setTop (mkF m 24 #[.val (.ref r0), .val (.ref r1), .val (.ref r2), .val (.ref r3), .val (.int p4)] [(.ref r3)]))
  refine Good.back (fun _ k => XS.pop X16.here hx rfl (hb hby own_d12_24) rfl rfl k) ?_
  refine Good.back (fun _ k => XS.iload X16.here hx rfl (hb hby own_d12_25) rfl k) ?_
  refine Good.back (fun _ k => XS.iconst X16.here hx rfl (hb hby own_d12_27) k) ?_
  show Good p e below _ (T16.setTop (mkF m 28 #[.val (.ref r0), .val (.ref r1), .val (.ref r2), .val (.ref r3), .val (.int p4)] [(.int (1 : Int32)), (.int p4)]))
  refine Good.back (fun _ k => XS.icmpYes X16.here hx rfl (pc0 := 28) (pc' := 46) rfl (hb hby own_d12_28) rfl (flt hln).2.1 (by decide) (by decide) k) ?_
  show Good p e below _ (T16.setTop (mkF m 46 #[.val (.ref r0), .val (.ref r1), .val (.ref r2), .val (.ref r3), .val (.int p4)] []))
  refine Good.back (fun _ k => XS.aloadN X16.here hx rfl (hb hby own_d12_46) rfl rfl k) ?_
  refine Good.back (fun _ k => XS.aloadN X16.here hx rfl (hb hby own_d12_47) rfl rfl k) ?_
  have f_17 : Fld Z h2 r0 "com/example/liken/liken/core/Token" "text" "Ljava/lang/String;" .null := Fld.ext E2 F_r0_text
  have f_18 : Fld Z h7 r0 "com/example/liken/liken/core/Token" "text" "Ljava/lang/String;" .null := Fld.ext E7 f_17
  have f_19 : Fld Z h12 r0 "com/example/liken/liken/core/Token" "text" "Ljava/lang/String;" .null := Fld.ext E12 f_18
  have f_20 : Exa Z h2 r0 "com/example/liken/liken/core/Token" := Exa.ext E2 E0
  have f_21 : Exa Z h7 r0 "com/example/liken/liken/core/Token" := Exa.ext E7 f_20
  have f_22 : Exa Z h12 r0 "com/example/liken/liken/core/Token" := Exa.ext E12 f_21
  obtain ⟨T23, h23, X23, e23, W23, st23⟩ := putF X16 hx hZ12 hown12 (host := "") (Or.inl (hw _ (own_m 72 rfl))) Via.refl eh16 f_19 f_22 (Or.inr ⟨(hw _ (own_m 73 rfl)), rfl, hnm⟩) (hw _ (own_m 52 rfl)) (ty := (.object "java/lang/String")) (by decide) rfl rfl (g := (mkF m 48 #[.val (.ref r0), .val (.ref r1), .val (.ref r2), .val (.ref r3), .val (.int p4)] [(.ref r1), (.ref r0)])) rfl rfl (hb hby own_d12_48)
  refine Good.back st23 ?_
  have f_24 : Fld Z h23 r0 "com/example/liken/liken/core/Token" "text" "Ljava/lang/String;" (.ref r1) := Fld.same W23 f_19
  have N23 := Fr.snoc X23 N16 g0
  have Z25 : n0 ≤ h23.size := Nat.le_trans Z13 (Keep.of_wr W23).1
  have hk26 := Nat.le_trans hk12 (Keep.of_wr W23).1
  have K27 : Keep h0 h23 [r0] := K15.wr W23 (Or.inl (List.mem_of_getElem? (i := 0) rfl))
  refine Good.back (fun _ k => XS.aloadN X23.here hx rfl (hb hby own_d12_51) rfl rfl k) ?_
  refine Good.back (fun _ k => XS.aloadN X23.here hx rfl (hb hby own_d12_52) rfl rfl k) ?_
  have f_28 : Fld Z h2 r0 "com/example/liken/liken/core/Token" "kind" "Ljava/lang/String;" .null := Fld.ext E2 F_r0_kind
  have f_29 : Fld Z h7 r0 "com/example/liken/liken/core/Token" "kind" "Ljava/lang/String;" .null := Fld.ext E7 f_28
  have f_30 : Fld Z h12 r0 "com/example/liken/liken/core/Token" "kind" "Ljava/lang/String;" .null := Fld.ext E12 f_29
  have f_31 : Fld Z h23 r0 "com/example/liken/liken/core/Token" "kind" "Ljava/lang/String;" .null := Fld.other W23 f_30 (Or.inr (slot_ne (Or.inr (hw _ (own_m 75 rfl))) (Or.inr (hw _ (own_m 73 rfl))) (by decide) (t := (.object "java/lang/String")) (t' := (.object "java/lang/String")) (by decide) (by decide)))
  have f_32 : Exa Z h23 r0 "com/example/liken/liken/core/Token" := Exa.wr W23 f_22
  obtain ⟨T33, h33, X33, e33, W33, st33⟩ := putF X23 hx hZ12 hown12 (host := "") (Or.inl (hw _ (own_m 74 rfl))) Via.refl e23 f_31 f_32 (Or.inr ⟨(hw _ (own_m 75 rfl)), rfl, hnm⟩) (hw _ (own_m 52 rfl)) (ty := (.object "java/lang/String")) (by decide) rfl rfl (g := (mkF m 53 #[.val (.ref r0), .val (.ref r1), .val (.ref r2), .val (.ref r3), .val (.int p4)] [(.ref r2), (.ref r0)])) rfl rfl (hb hby own_d12_53)
  refine Good.back st33 ?_
  have f_34 : Fld Z h33 r0 "com/example/liken/liken/core/Token" "kind" "Ljava/lang/String;" (.ref r2) := Fld.same W33 f_31
  have N33 := Fr.snoc X33 N23 g0
  have Z35 : n0 ≤ h33.size := Nat.le_trans Z25 (Keep.of_wr W33).1
  have hk36 := Nat.le_trans hk26 (Keep.of_wr W33).1
  have K37 : Keep h0 h33 [r0] := K27.wr W33 (Or.inl (List.mem_of_getElem? (i := 0) rfl))
  refine Good.back (fun _ k => XS.aloadN X33.here hx rfl (hb hby own_d12_56) rfl rfl k) ?_
  refine Good.back (fun _ k => XS.aloadN X33.here hx rfl (hb hby own_d12_57) rfl rfl k) ?_
  have f_38 : Fld Z h2 r0 "com/example/liken/liken/core/Token" "abstraction" "Lcom/example/liken/liken/core/Token$Abstraction;" .null := Fld.ext E2 F_r0_abstraction
  have f_39 : Fld Z h7 r0 "com/example/liken/liken/core/Token" "abstraction" "Lcom/example/liken/liken/core/Token$Abstraction;" .null := Fld.ext E7 f_38
  have f_40 : Fld Z h12 r0 "com/example/liken/liken/core/Token" "abstraction" "Lcom/example/liken/liken/core/Token$Abstraction;" .null := Fld.ext E12 f_39
  have f_41 : Fld Z h23 r0 "com/example/liken/liken/core/Token" "abstraction" "Lcom/example/liken/liken/core/Token$Abstraction;" .null := Fld.other W23 f_40 (Or.inr (slot_ne (Or.inr (hw _ (own_m 77 rfl))) (Or.inr (hw _ (own_m 73 rfl))) (by decide) (t := (.object "com/example/liken/liken/core/Token$Abstraction")) (t' := (.object "java/lang/String")) (by decide) (by decide)))
  have f_42 : Fld Z h33 r0 "com/example/liken/liken/core/Token" "abstraction" "Lcom/example/liken/liken/core/Token$Abstraction;" .null := Fld.other W33 f_41 (Or.inr (slot_ne (Or.inr (hw _ (own_m 77 rfl))) (Or.inr (hw _ (own_m 75 rfl))) (by decide) (t := (.object "com/example/liken/liken/core/Token$Abstraction")) (t' := (.object "java/lang/String")) (by decide) (by decide)))
  have f_43 : Exa Z h33 r0 "com/example/liken/liken/core/Token" := Exa.wr W33 f_32
  obtain ⟨T44, h44, X44, e44, W44, st44⟩ := putF X33 hx hZ12 hown12 (host := "") (Or.inl (hw _ (own_m 76 rfl))) Via.refl e33 f_42 f_43 (Or.inr ⟨(hw _ (own_m 77 rfl)), rfl, hnm⟩) (hw _ (own_m 52 rfl)) (ty := (.object "com/example/liken/liken/core/Token$Abstraction")) (by decide) rfl rfl (g := (mkF m 58 #[.val (.ref r0), .val (.ref r1), .val (.ref r2), .val (.ref r3), .val (.int p4)] [(.ref r3), (.ref r0)])) rfl rfl (hb hby own_d12_58)
  refine Good.back st44 ?_
  have f_45 : Fld Z h44 r0 "com/example/liken/liken/core/Token" "abstraction" "Lcom/example/liken/liken/core/Token$Abstraction;" (.ref r3) := Fld.same W44 f_42
  have N44 := Fr.snoc X44 N33 g0
  have Z46 : n0 ≤ h44.size := Nat.le_trans Z35 (Keep.of_wr W44).1
  have hk47 := Nat.le_trans hk36 (Keep.of_wr W44).1
  have K48 : Keep h0 h44 [r0] := K37.wr W44 (Or.inl (List.mem_of_getElem? (i := 0) rfl))
  refine Good.back (fun _ k => XS.aloadN X44.here hx rfl (hb hby own_d12_61) rfl rfl k) ?_
  refine Good.back (fun _ k => XS.iload X44.here hx rfl (hb hby own_d12_62) rfl k) ?_
  have f_49 : Fld Z h2 r0 "com/example/liken/liken/core/Token" "line" "I" (.int (0 : Int32)) := Fld.ext E2 F_r0_line
  have f_50 : Fld Z h7 r0 "com/example/liken/liken/core/Token" "line" "I" (.int (0 : Int32)) := Fld.ext E7 f_49
  have f_51 : Fld Z h12 r0 "com/example/liken/liken/core/Token" "line" "I" (.int (0 : Int32)) := Fld.ext E12 f_50
  have f_52 : Fld Z h23 r0 "com/example/liken/liken/core/Token" "line" "I" (.int (0 : Int32)) := Fld.other W23 f_51 (Or.inr (slot_ne (Or.inr (hw _ (own_m 79 rfl))) (Or.inr (hw _ (own_m 73 rfl))) (by decide) (t := .int) (t' := (.object "java/lang/String")) (by decide) (by decide)))
  have f_53 : Fld Z h33 r0 "com/example/liken/liken/core/Token" "line" "I" (.int (0 : Int32)) := Fld.other W33 f_52 (Or.inr (slot_ne (Or.inr (hw _ (own_m 79 rfl))) (Or.inr (hw _ (own_m 75 rfl))) (by decide) (t := .int) (t' := (.object "java/lang/String")) (by decide) (by decide)))
  have f_54 : Fld Z h44 r0 "com/example/liken/liken/core/Token" "line" "I" (.int (0 : Int32)) := Fld.other W44 f_53 (Or.inr (slot_ne (Or.inr (hw _ (own_m 79 rfl))) (Or.inr (hw _ (own_m 77 rfl))) (by decide) (t := .int) (t' := (.object "com/example/liken/liken/core/Token$Abstraction")) (by decide) (by decide)))
  have f_55 : Exa Z h44 r0 "com/example/liken/liken/core/Token" := Exa.wr W44 f_43
  obtain ⟨T56, h56, X56, e56, W56, st56⟩ := putF X44 hx hZ12 hown12 (host := "") (Or.inl (hw _ (own_m 78 rfl))) Via.refl e44 f_54 f_55 (Or.inr ⟨(hw _ (own_m 79 rfl)), rfl, hnm⟩) (hw _ (own_m 52 rfl)) (ty := .int) (by decide) rfl rfl (g := (mkF m 64 #[.val (.ref r0), .val (.ref r1), .val (.ref r2), .val (.ref r3), .val (.int p4)] [(.int p4), (.ref r0)])) rfl rfl (hb hby own_d12_64)
  refine Good.back st56 ?_
  have f_57 : Fld Z h56 r0 "com/example/liken/liken/core/Token" "line" "I" (.int p4) := Fld.same W56 f_54
  have N56 := Fr.snoc X56 N44 g0
  have Z58 : n0 ≤ h56.size := Nat.le_trans Z46 (Keep.of_wr W56).1
  have hk59 := Nat.le_trans hk47 (Keep.of_wr W56).1
  have K60 : Keep h0 h56 [r0] := K48.wr W56 (Or.inl (List.mem_of_getElem? (i := 0) rfl))
  show Good p e below _ (T56.setTop (mkF m 67 #[.val (.ref r0), .val (.ref r1), .val (.ref r2), .val (.ref r3), .val (.int p4)] []))
  obtain ⟨fs61, hr61, hrun61, hended61, hRE61⟩ := leaveW X56 hS12 (by rw [e56]; exact hk59) (v := none) (fun _ => rfl)
  refine Good.done (X56.returnOut hx Bd.returns (hb hby own_d12_67) hr61) hrun61 hended61 ⟨_, _, rfl, ?_, hRE61.1, hRE61.2.1, hRE61.2.2.1, hRE61.2.2.2.mono (by decide) (by decide)⟩
  show Q12 Z r0 r1 r2 r3 p4 h0 n0 _ T56.heap _
  rw [e56]
  exact ⟨rfl, N56, K60⟩
theorem own_pd168 : parseMethodDescriptor "([C)V" = some ⟨[(.array .char)], none⟩ := by decide +kernel
theorem own_pd169 : parseMethodDescriptor "(C)Ljava/lang/String;" = some ⟨[.char], some (.object "java/lang/String")⟩ := by decide +kernel
theorem own_pd170 : parseMethodDescriptor "(Ljava/lang/String;Ljava/lang/String;Lcom/example/liken/liken/core/Token$Abstraction;I)V" = some ⟨[(.object "java/lang/String"), (.object "java/lang/String"), (.object "com/example/liken/liken/core/Token$Abstraction"), .int], none⟩ := by decide +kernel
theorem own_pn9 : plainName "com/example/liken/liken/core/TokenSliceHeldPinLaw" = true := by first | (simp [plainName, overriddenIn]; done) | decide +kernel
theorem own_d1_0 : decode method_3_code 0 = .ok (.iconst 1, 1) := by decide +kernel
theorem own_d1_1 : decode method_3_code 1 = .ok (.newarray .char, 2) := by decide +kernel
theorem own_d1_3 : decode method_3_code 3 = .ok (.dup, 1) := by decide +kernel
theorem own_d1_4 : decode method_3_code 4 = .ok (.iconst 0, 1) := by decide +kernel
theorem own_d1_5 : decode method_3_code 5 = .ok (.iload_n 0, 1) := by decide +kernel
theorem own_d1_6 : decode method_3_code 6 = .ok (.sipush 255, 3) := by decide +kernel
theorem own_d1_9 : decode method_3_code 9 = .ok (.iand, 1) := by decide +kernel
theorem own_d1_10 : decode method_3_code 10 = .ok (.i2c, 1) := by decide +kernel
theorem own_d1_11 : decode method_3_code 11 = .ok (.castore, 1) := by decide +kernel
theorem own_d1_12 : decode method_3_code 12 = .ok (.astore_n 1, 1) := by decide +kernel
theorem own_d1_13 : decode method_3_code 13 = .ok (.new 44, 3) := by decide +kernel
theorem own_d1_16 : decode method_3_code 16 = .ok (.dup, 1) := by decide +kernel
theorem own_d1_17 : decode method_3_code 17 = .ok (.aload_n 1, 1) := by decide +kernel
theorem own_d1_18 : decode method_3_code 18 = .ok (.invokespecial 46, 3) := by decide +kernel
theorem own_d1_21 : decode method_3_code 21 = .ok (.astore_n 2, 1) := by decide +kernel
theorem own_d1_22 : decode method_3_code 22 = .ok (.iload_n 0, 1) := by decide +kernel
theorem own_d1_23 : decode method_3_code 23 = .ok (.bipush 8, 2) := by decide +kernel
theorem own_d1_25 : decode method_3_code 25 = .ok (.iushr, 1) := by decide +kernel
theorem own_d1_26 : decode method_3_code 26 = .ok (.sipush 255, 3) := by decide +kernel
theorem own_d1_29 : decode method_3_code 29 = .ok (.iand, 1) := by decide +kernel
theorem own_d1_30 : decode method_3_code 30 = .ok (.i2c, 1) := by decide +kernel
theorem own_d1_31 : decode method_3_code 31 = .ok (.invokestatic 49, 3) := by decide +kernel
theorem own_d1_34 : decode method_3_code 34 = .ok (.astore_n 3, 1) := by decide +kernel
theorem own_d1_35 : decode method_3_code 35 = .ok (.iload_n 0, 1) := by decide +kernel
theorem own_d1_36 : decode method_3_code 36 = .ok (.bipush 16, 2) := by decide +kernel
theorem own_d1_38 : decode method_3_code 38 = .ok (.iushr, 1) := by decide +kernel
theorem own_d1_39 : decode method_3_code 39 = .ok (.sipush 255, 3) := by decide +kernel
theorem own_d1_42 : decode method_3_code 42 = .ok (.iand, 1) := by decide +kernel
theorem own_d1_43 : decode method_3_code 43 = .ok (.iconst 3, 1) := by decide +kernel
theorem own_d1_44 : decode method_3_code 44 = .ok (.irem, 1) := by decide +kernel
theorem own_d1_45 : decode method_3_code 45 = .ok (.istore 4, 2) := by decide +kernel
theorem own_d1_47 : decode method_3_code 47 = .ok (.iload 4, 2) := by decide +kernel
theorem own_d1_49 : decode method_3_code 49 = .ok (.ifCond .ne 11, 3) := by decide +kernel
theorem own_d1_52 : decode method_3_code 52 = .ok (.getstatic 53, 3) := by decide +kernel
theorem own_d1_55 : decode method_3_code 55 = .ok (.astore 5, 2) := by decide +kernel
theorem own_d1_57 : decode method_3_code 57 = .ok (.goto 22, 3) := by decide +kernel
theorem own_d1_60 : decode method_3_code 60 = .ok (.iload 4, 2) := by decide +kernel
theorem own_d1_62 : decode method_3_code 62 = .ok (.iconst 1, 1) := by decide +kernel
theorem own_d1_63 : decode method_3_code 63 = .ok (.if_icmp .ne 11, 3) := by decide +kernel
theorem own_d1_66 : decode method_3_code 66 = .ok (.getstatic 59, 3) := by decide +kernel
theorem own_d1_69 : decode method_3_code 69 = .ok (.astore 5, 2) := by decide +kernel
theorem own_d1_71 : decode method_3_code 71 = .ok (.goto 8, 3) := by decide +kernel
theorem own_d1_74 : decode method_3_code 74 = .ok (.getstatic 62, 3) := by decide +kernel
theorem own_d1_77 : decode method_3_code 77 = .ok (.astore 5, 2) := by decide +kernel
theorem own_d1_79 : decode method_3_code 79 = .ok (.iload_n 0, 1) := by decide +kernel
theorem own_d1_80 : decode method_3_code 80 = .ok (.bipush 24, 2) := by decide +kernel
theorem own_d1_82 : decode method_3_code 82 = .ok (.iushr, 1) := by decide +kernel
theorem own_d1_83 : decode method_3_code 83 = .ok (.bipush 127, 2) := by decide +kernel
theorem own_d1_85 : decode method_3_code 85 = .ok (.iand, 1) := by decide +kernel
theorem own_d1_86 : decode method_3_code 86 = .ok (.iconst 1, 1) := by decide +kernel
theorem own_d1_87 : decode method_3_code 87 = .ok (.iadd, 1) := by decide +kernel
theorem own_d1_88 : decode method_3_code 88 = .ok (.istore 6, 2) := by decide +kernel
theorem own_d1_90 : decode method_3_code 90 = .ok (.new 65, 3) := by decide +kernel
theorem own_d1_93 : decode method_3_code 93 = .ok (.dup, 1) := by decide +kernel
theorem own_d1_94 : decode method_3_code 94 = .ok (.aload_n 2, 1) := by decide +kernel
theorem own_d1_95 : decode method_3_code 95 = .ok (.aload_n 3, 1) := by decide +kernel
theorem own_d1_96 : decode method_3_code 96 = .ok (.aload 5, 2) := by decide +kernel
theorem own_d1_98 : decode method_3_code 98 = .ok (.iload 6, 2) := by decide +kernel
theorem own_d1_100 : decode method_3_code 100 = .ok (.invokespecial 67, 3) := by decide +kernel
theorem own_d1_103 : decode method_3_code 103 = .ok (.areturn, 1) := by decide +kernel
theorem own_ef_1 (m : MethodId) (x0 : Int32) : entryFrame m #[(.int x0)] 7 = mkF m 0 #[.val (.int x0), .unset, .unset, .unset, .unset, .unset, .unset] [] := by first | (simp [entryFrame, mkF, argsToLocals, Value.category]; done) | rfl
def Q1 (Z : State) (p0 : Int32) (cs : Int32) (w_NAME : Addr) (w_SYNTAX : Addr) (w_KEPT : Addr) (h0 : Heap) (n0 : Nat) (v : Option Value) (h : Heap) (L : List Loc) : Prop := ∃ (tk : Addr), v = some (.ref tk) ∧ Fr n0 L ∧ Keep h0 h [] ∧ h0.size ≤ tk ∧ Exa Z h tk "com/example/liken/liken/core/Token"
set_option maxRecDepth 65536 in
set_option maxHeartbeats 40000000 in
theorem rm1 (l : Launch) (Z : State) (a0 : Array Value) (hw : ∀ d ∈ tables_1, d.before a0 Z = true) (ws : List Jvm.Cond) (p0 : Int32) (cs : Int32) (w_NAME : Addr) (w_SYNTAX : Addr) (w_KEPT : Addr) (h0 : Heap) (n0 : Nat) (Z0 : n0 ≤ h0.size) (S_cs : Sta Z h0 "java/lang/String" "COMPACT_STRINGS" "Z" (.int cs)) (hcs : ¬ (cs = (0 : Int32))) (S_wNAME : Sta Z h0 "com/example/liken/liken/core/Token$Abstraction" "NAME" "Lcom/example/liken/liken/core/Token$Abstraction;" (.ref w_NAME)) (S_wSYNTAX : Sta Z h0 "com/example/liken/liken/core/Token$Abstraction" "SYNTAX" "Lcom/example/liken/liken/core/Token$Abstraction;" (.ref w_SYNTAX)) (S_wKEPT : Sta Z h0 "com/example/liken/liken/core/Token$Abstraction" "KEPT" "Lcom/example/liken/liken/core/Token$Abstraction;" (.ref w_KEPT)) :
    MetFree l (⟨"com/example/liken/liken/core/TokenSliceHeldPinLaw", "tok", "(I)Lcom/example/liken/liken/core/Token;"⟩ : MethodName) (head1 (Jvm.Cond.code (⟨"com/example/liken/liken/core/TokenSliceHeldPinLaw", "tok", "(I)Lcom/example/liken/liken/core/Token;"⟩ : MethodName) method_3_code 7 (some (.object "com/example/liken/liken/core/Token")) :: ws) ({ frames := 4, cells := 12, slots := 103, locals := 66 } : Room)) (fun a U => a = #[(.int p0)] ∧ Z.Warmed39 U.vm ∧ U.heap = h0) (fun _ _ _ _ _ => True) (fun _ U o U' => ∃ v L, o = .returned v ∧ Q1 Z p0 cs w_NAME w_SYNTAX w_KEPT h0 n0 v U'.heap L ∧ ReturnedEndW U o U' L ({ frames := 4, cells := 12, slots := 103, locals := 66 } : Room).cells ({ frames := 4, cells := 12, slots := 103, locals := 66 } : Room).slots) := by
  refine MetFree.of_bodySF (plainFor_of_name own_pn9) hisR ?_
  intro p e s m args below meth c s₁ Bd hml0 hP hK
  obtain ⟨rfl, hZ, hh⟩ := hP
  have hx := Bd.exec
  have hby := Bd.bytes
  have hml : c.maxLocals = 7 := hml0
  have hown : s.vm.findClass "com/example/liken/liken/core/TokenSliceHeldPinLaw" = some m.cls := findClass_of_methodNamed Bd.named
  have hnm := (name_of_methodNamed Bd.named Bd.method).1
  have X0 : Stand p l e ({ frames := 4, cells := 12, slots := 103, locals := 66 } : Room) s m #[(.int p0)] below meth c s₁ [] 0 0 := Stand.of_body Bd
  have e0 : s₁.heap = h0 := by rw [← hh, Bd.state]; rfl
  have N0 := Fr.nil n0
  have X0c : Stand p l e ({ frames := 4, cells := 12, slots := 103, locals := 66 } : Room) (s.setVm s.vm) m #[(.int p0)] below meth c s₁ [] 0 0 := X0
  have hS0 : s.Since s.vm 0 := (State.WarmedH.refl s).since 0
  have hk0 : 0 ≤ h0.size := Nat.zero_le _
  have hZ0 : Z.Warmed39 (s.setVm s.vm).vm := hZ
  have hown0 : (s.setVm s.vm).vm.findClass "com/example/liken/liken/core/TokenSliceHeldPinLaw" = some m.cls := hown
  have KR : Keep h0 h0 [] := Keep.refl h0 _
  show Good p e below (fun o U' => ∃ v L, o = .returned v ∧ Q1 Z p0 cs w_NAME w_SYNTAX w_KEPT h0 n0 v U'.heap L ∧ ReturnedEndW s o U' L ({ frames := 4, cells := 12, slots := 103, locals := 66 } : Room).cells ({ frames := 4, cells := 12, slots := 103, locals := 66 } : Room).slots) _
  refine Good.back (S' := s₁.setTop (mkF m 0 #[.val (.int p0), .unset, .unset, .unset, .unset, .unset, .unset] [])) (fun t k => castTop (own_ef_1 m p0) k) ?_
  show Good p e below _ (s₁.setTop (mkF m 0 #[.val (.int p0), .unset, .unset, .unset, .unset, .unset, .unset] []))
  refine Good.back (fun _ k => XS.iconst X0c.here hx rfl (hb hby own_d1_0) k) ?_
  obtain ⟨T1, h1, k1, X1, e1, E1, A1, st1⟩ := newP X0c hx hZ0 (hw _ (own_m 4 rfl)) e0 (g := (mkF m 1 #[.val (.int p0), .unset, .unset, .unset, .unset, .unset, .unset] [(.int (1 : Int32))])) rfl (hb hby own_d1_1) rfl (by decide) (cap := 1) (by decide) (by decide) (by decide) (by decide)
  obtain ⟨b1, g1⟩ : ∃ z, z = h0.size := ⟨_, rfl⟩
  rw [← g1] at A1 st1
  refine Good.back st1 ?_
  have g_b1 : n0 ≤ b1 := Nat.le_trans Z0 (Nat.le_of_eq g1.symm)
  have sz_b1 : h0.size ≤ b1 := Nat.le_trans KR.1 (Nat.le_of_eq g1.symm)
  have Z2 : n0 ≤ h1.size := Nat.le_trans Z0 E1.1
  have hk3 := Nat.le_trans hk0 E1.1
  have K4 : Keep h0 h1 [] := KR.ext E1
  have f_5 : Arv Z h1 b1 k1 .char (1 : Int32) [(.int (0 : Int32))] (.int (0 : Int32)) := (Arv.new A1 (by decide)).pad (pad_rep [] (.int (0 : Int32)) 1)
  refine Good.back (fun _ k => XS.dup X1.here hx rfl (hb hby own_d1_3) rfl rfl k) ?_
  refine Good.back (fun _ k => XS.iconst X1.here hx rfl (hb hby own_d1_4) k) ?_
  refine Good.back (fun _ k => XS.iloadN X1.here hx rfl (hb hby own_d1_5) rfl k) ?_
  refine Good.back (fun _ k => XS.sipush X1.here hx rfl (hb hby own_d1_6) k) ?_
  show Good p e below _ (T1.setTop (mkF m 9 #[.val (.int p0), .unset, .unset, .unset, .unset, .unset, .unset] [(.int (255 : Int32)), (.int p0), (.int (0 : Int32)), (.ref b1), (.ref b1)]))
  refine Good.back (fun _ k => XS.iand X1.here hx rfl (hb hby own_d1_9) rfl k) ?_
  show Good p e below _ (T1.setTop (mkF m 10 #[.val (.int p0), .unset, .unset, .unset, .unset, .unset, .unset] [(.int (p0 &&& (255 : Int32))), (.int (0 : Int32)), (.ref b1), (.ref b1)]))
  refine Good.back (fun _ k => XS.i2c X1.here hx rfl (hb hby own_d1_10) rfl k) ?_
  show Good p e below _ (T1.setTop (mkF m 11 #[.val (.int p0), .unset, .unset, .unset, .unset, .unset, .unset] [(.int ((p0 &&& (255 : Int32)).toUInt32.toUInt16.toUInt32.toInt32)), (.int (0 : Int32)), (.ref b1), (.ref b1)]))
  have fc6 := f_5
  obtain ⟨cl6, Ar6, qk6, S6, N6', H6, G6⟩ := fc6
  have hin6 : ¬ ((0 : Int32) < 0 ∨ cl6.slots.size ≤ ((0 : Int32)).toNatClampNeg) := inb_of S6 ⟨by decide, by decide⟩
  obtain ⟨T6, h6, X6, e6, W6, st6⟩ := stC X1 hx hZ0 e1 Ar6 (j := (0 : Int32)) hin6 (g := (mkF m 11 #[.val (.int p0), .unset, .unset, .unset, .unset, .unset, .unset] [(.int ((p0 &&& (255 : Int32)).toUInt32.toUInt16.toUInt32.toInt32)), (.int (0 : Int32)), (.ref b1), (.ref b1)])) rfl rfl (hb hby own_d1_11)
  refine Good.back st6 ?_
  have f_7 : Arv Z h6 b1 k1 .char (1 : Int32) [(.int (nar .char ((p0 &&& (255 : Int32)).toUInt32.toUInt16.toUInt32.toInt32)))] (.int (0 : Int32)) := Arv.set Ar6 qk6 S6 N6' H6 G6 (fits_nar_char _) W6 0 rfl (Nat.le_of_ble_eq_true rfl)
  have N6 := Fr.snoc X6 N0 g_b1
  have Z8 : n0 ≤ h6.size := Nat.le_trans Z2 (Keep.of_wr W6).1
  have hk9 := Nat.le_trans hk3 (Keep.of_wr W6).1
  have K10 : Keep h0 h6 [] := K4.wr W6 (Or.inr sz_b1)
  show Good p e below _ (T6.setTop (mkF m 12 #[.val (.int p0), .unset, .unset, .unset, .unset, .unset, .unset] [(.ref b1)]))
  refine Good.back (fun _ k => XS.astoreN X6.here hx rfl (hb hby own_d1_12) rfl rfl (l' := #[.val (.int p0), .val (.ref b1), .unset, .unset, .unset, .unset, .unset]) rfl k) ?_
  obtain ⟨T11, h11, X11, e11, E11, A11, D11, -, st11⟩ := newO X6 hx hZ0 hown0 (hw _ (own_m 5 rfl)) (hw _ (own_m 6 rfl)) (hw _ (own_m 7 rfl)) e6 (g := (mkF m 13 #[.val (.int p0), .val (.ref b1), .unset, .unset, .unset, .unset, .unset] [])) rfl (hb hby own_d1_13) (by decide) (by decide)
  obtain ⟨b11, g11⟩ : ∃ z, z = h6.size := ⟨_, rfl⟩
  rw [← g11] at A11 D11 st11
  refine Good.back st11 ?_
  have g_b11 : n0 ≤ b11 := Nat.le_trans Z8 (Nat.le_of_eq g11.symm)
  have sz_b11 : h0.size ≤ b11 := Nat.le_trans K10.1 (Nat.le_of_eq g11.symm)
  have Z12 : n0 ≤ h11.size := Nat.le_trans Z8 E11.1
  have hk13 := Nat.le_trans hk9 E11.1
  have K14 : Keep h0 h11 [] := K10.ext E11
  have f_15 : Exa Z h11 b11 "java/lang/String" := A11
  have f_16 : Fld Z h11 b11 "java/lang/String" "coder" "B" (.int (0 : Int32)) := D11 (Or.inr (hw _ (own_m 31 rfl))) (ty := .byte) (by decide)
  have f_17 : Fld Z h11 b11 "java/lang/String" "value" "[B" .null := D11 (Or.inr (hw _ (own_m 33 rfl))) (ty := (.array .byte)) (by decide)
  refine Good.back (fun _ k => XS.dup X11.here hx rfl (hb hby own_d1_16) rfl rfl k) ?_
  refine Good.back (fun _ k => XS.aloadN X11.here hx rfl (hb hby own_d1_17) rfl rfl k) ?_
  have f_19 : Sta Z h1 "java/lang/String" "COMPACT_STRINGS" "Z" (.int cs) := Sta.ext E1 S_cs
  have f_20 : Sta Z h6 "java/lang/String" "COMPACT_STRINGS" "Z" (.int cs) := Sta.wr W6 f_19
  have f_21 : Sta Z h11 "java/lang/String" "COMPACT_STRINGS" "Z" (.int cs) := Sta.ext E11 f_20
  have f_22 : Arv Z h11 b1 k1 .char (1 : Int32) [(.int (nar .char ((p0 &&& (255 : Int32)).toUInt32.toUInt16.toUInt32.toInt32)))] (.int (0 : Int32)) := Arv.ext f_7 E11
  obtain ⟨_, _, ⟨T18, L18, k18, n18⟩, -, X18, ⟨Lc18, hQ18, l18, y18, z18⟩, st18⟩ := X11.specialBack hx (y := (⟨"java/lang/String", "<init>", "([C)V"⟩ : MethodName)) rfl hown0 (mvT hZ0 (hw _ (own_m 8 rfl))) (mvT hZ0 (hw _ (own_m 9 rfl))) (mvT hZ0 (hw _ (own_m 10 rfl))) (by decide) (backOf (W := 1) (rm2n1 l Z a0 hw [] b11 b1 cs k1 (nar .char ((p0 &&& (255 : Int32)).toUInt32.toUInt16.toUInt32.toInt32)) h11 n0 Z12 f_21 (hcs) f_15 g_b11 f_17 f_16 f_22 (own_charN p0)) hZ0 (hw _ (own_m 10 rfl)) (hw _ (own_m 7 rfl)) (by decide) (by decide)) (g := (mkF m 18 #[.val (.int p0), .val (.ref b1), .unset, .unset, .unset, .unset, .unset] [(.ref b1), (.ref b11), (.ref b11)])) rfl (by rw [hml]; rfl) (Steps.refl _) (a := b11) (argsL := [(.ref b1)]) (rest := [(.ref b11)]) (lenOf own_pd168 rfl) rfl (by show 2 * 0 + _ ≤ _; exact Nat.le_of_eq rfl) (hb hby own_d1_18) (fun _ _ => ⟨rfl, e11, (by decide : 2 + 1 ≤ _), (by decide : 5 + 1 ≤ _)⟩)
  dsimp only [Pt.U, Pt.locs, Pt.cells, Pt.slots] at X18 l18 y18 z18 st18 hQ18
  subst l18 y18 z18
  obtain ⟨ar_18, kb_18, rfl, N18q, Kq18, o18_0, o18_1, o18_2, o18_3, o18_4⟩ := hQ18
  have N18 := Fr.app N6 N18q
  have Z23 : n0 ≤ T18.heap.size := Nat.le_trans Z12 Kq18.1
  have hk24 := Nat.le_trans hk13 Kq18.1
  have K25 : Keep h0 T18.heap [] := K14.trans Kq18 (allS (Or.inr sz_b11) all0)
  have g_ar_18 : n0 ≤ ar_18 := Nat.le_trans Z12 o18_0
  have sz_ar_18 : h0.size ≤ ar_18 := Nat.le_trans K14.1 o18_0
  refine Good.back (fun _ k => st18.trans k) ?_
  show Good p e below _ (T18.setTop (mkF m 21 #[.val (.int p0), .val (.ref b1), .unset, .unset, .unset, .unset, .unset] [(.ref b11)]))
  refine Good.back (fun _ k => XS.astoreN X18.here hx rfl (hb hby own_d1_21) rfl rfl (l' := #[.val (.int p0), .val (.ref b1), .val (.ref b11), .unset, .unset, .unset, .unset]) rfl k) ?_
  refine Good.back (fun _ k => XS.iloadN X18.here hx rfl (hb hby own_d1_22) rfl k) ?_
  refine Good.back (fun _ k => XS.bipush X18.here hx rfl (hb hby own_d1_23) k) ?_
  show Good p e below _ (T18.setTop (mkF m 25 #[.val (.int p0), .val (.ref b1), .val (.ref b11), .unset, .unset, .unset, .unset] [(.int (8 : Int32)), (.int p0)]))
  refine Good.back (fun _ k => XS.iushr X18.here hx rfl (hb hby own_d1_25) rfl k) ?_
  show Good p e below _ (T18.setTop (mkF m 26 #[.val (.int p0), .val (.ref b1), .val (.ref b11), .unset, .unset, .unset, .unset] [(.int ((p0.toUInt32 >>> ((8 : Int32) &&& 31).toUInt32).toInt32))]))
  refine Good.back (fun _ k => XS.sipush X18.here hx rfl (hb hby own_d1_26) k) ?_
  show Good p e below _ (T18.setTop (mkF m 29 #[.val (.int p0), .val (.ref b1), .val (.ref b11), .unset, .unset, .unset, .unset] [(.int (255 : Int32)), (.int ((p0.toUInt32 >>> ((8 : Int32) &&& 31).toUInt32).toInt32))]))
  refine Good.back (fun _ k => XS.iand X18.here hx rfl (hb hby own_d1_29) rfl k) ?_
  show Good p e below _ (T18.setTop (mkF m 30 #[.val (.int p0), .val (.ref b1), .val (.ref b11), .unset, .unset, .unset, .unset] [(.int (((p0.toUInt32 >>> ((8 : Int32) &&& 31).toUInt32).toInt32) &&& (255 : Int32)))]))
  refine Good.back (fun _ k => XS.i2c X18.here hx rfl (hb hby own_d1_30) rfl k) ?_
  show Good p e below _ (T18.setTop (mkF m 31 #[.val (.int p0), .val (.ref b1), .val (.ref b11), .unset, .unset, .unset, .unset] [(.int ((((p0.toUInt32 >>> ((8 : Int32) &&& 31).toUInt32).toInt32) &&& (255 : Int32)).toUInt32.toUInt16.toUInt32.toInt32))]))
  have f_27 : Sta Z T18.heap "java/lang/String" "COMPACT_STRINGS" "Z" (.int cs) := own_staKeep f_21 Kq18 (allS (own_plainE f_15) all0)
  obtain ⟨_, _, ⟨T26, L26, k26, n26⟩, -, X26, ⟨Lc26, hQ26, l26, y26, z26⟩, st26⟩ := Jvm.LawKit.callS X18 hx (y := (⟨"java/lang/String", "valueOf", "(C)Ljava/lang/String;"⟩ : MethodName)) hown0 (mvT hZ0 (hw _ (own_m 34 rfl))) (mvT hZ0 (hw _ (own_m 35 rfl))) (mvT hZ0 (hw _ (own_m 7 rfl))) (mvT hZ0 (hw _ (own_m 36 rfl))) (by decide) (backOf (W := 0) (rm8 l Z a0 hw [] ((((p0.toUInt32 >>> ((8 : Int32) &&& 31).toUInt32).toInt32) &&& (255 : Int32)).toUInt32.toUInt16.toUInt32.toInt32) cs T18.heap n0 Z23 f_27 (hcs) (own_char _)) hZ0 (hw _ (own_m 36 rfl)) (hw _ (own_m 7 rfl)) (by decide) (by decide)) (g := (mkF m 31 #[.val (.int p0), .val (.ref b1), .val (.ref b11), .unset, .unset, .unset, .unset] [(.int ((((p0.toUInt32 >>> ((8 : Int32) &&& 31).toUInt32).toInt32) &&& (255 : Int32)).toUInt32.toUInt16.toUInt32.toInt32))])) rfl (by rw [hml]; rfl) (argsL := [(.int ((((p0.toUInt32 >>> ((8 : Int32) &&& 31).toUInt32).toInt32) &&& (255 : Int32)).toUInt32.toUInt16.toUInt32.toInt32))]) (rest := []) (lenOf own_pd169 rfl) rfl (by show 2 * 0 + _ ≤ _; exact Nat.le_of_eq rfl) (hb hby own_d1_31) (fun _ _ => ⟨rfl, rfl, (by decide : 3 + 2 ≤ _), (by decide : 6 + 5 ≤ _)⟩)
  dsimp only [Pt.U, Pt.locs, Pt.cells, Pt.slots] at X26 l26 y26 z26 st26 hQ26
  subst l26 y26 z26
  obtain ⟨sr_26, ar_26, kk_26, rfl, N26q, Kq26, o26_0, o26_1, o26_2, o26_3, o26_4, o26_5, o26_6⟩ := hQ26
  have N26 := Fr.app N18 N26q
  have Z28 : n0 ≤ T26.heap.size := Nat.le_trans Z23 Kq26.1
  have hk29 := Nat.le_trans hk24 Kq26.1
  have K30 : Keep h0 T26.heap [] := K25.trans Kq26 all0
  have g_sr_26 : n0 ≤ sr_26 := Nat.le_trans Z23 o26_0
  have sz_sr_26 : h0.size ≤ sr_26 := Nat.le_trans K25.1 o26_0
  have g_ar_26 : n0 ≤ ar_26 := Nat.le_trans Z23 o26_1
  have sz_ar_26 : h0.size ≤ ar_26 := Nat.le_trans K25.1 o26_1
  refine Good.back st26 ?_
  show Good p e below _ (T26.setTop (mkF m 34 #[.val (.int p0), .val (.ref b1), .val (.ref b11), .unset, .unset, .unset, .unset] [(.ref sr_26)]))
  refine Good.back (fun _ k => XS.astoreN X26.here hx rfl (hb hby own_d1_34) rfl rfl (l' := #[.val (.int p0), .val (.ref b1), .val (.ref b11), .val (.ref sr_26), .unset, .unset, .unset]) rfl k) ?_
  refine Good.back (fun _ k => XS.iloadN X26.here hx rfl (hb hby own_d1_35) rfl k) ?_
  refine Good.back (fun _ k => XS.bipush X26.here hx rfl (hb hby own_d1_36) k) ?_
  show Good p e below _ (T26.setTop (mkF m 38 #[.val (.int p0), .val (.ref b1), .val (.ref b11), .val (.ref sr_26), .unset, .unset, .unset] [(.int (16 : Int32)), (.int p0)]))
  refine Good.back (fun _ k => XS.iushr X26.here hx rfl (hb hby own_d1_38) rfl k) ?_
  show Good p e below _ (T26.setTop (mkF m 39 #[.val (.int p0), .val (.ref b1), .val (.ref b11), .val (.ref sr_26), .unset, .unset, .unset] [(.int ((p0.toUInt32 >>> ((16 : Int32) &&& 31).toUInt32).toInt32))]))
  refine Good.back (fun _ k => XS.sipush X26.here hx rfl (hb hby own_d1_39) k) ?_
  show Good p e below _ (T26.setTop (mkF m 42 #[.val (.int p0), .val (.ref b1), .val (.ref b11), .val (.ref sr_26), .unset, .unset, .unset] [(.int (255 : Int32)), (.int ((p0.toUInt32 >>> ((16 : Int32) &&& 31).toUInt32).toInt32))]))
  refine Good.back (fun _ k => XS.iand X26.here hx rfl (hb hby own_d1_42) rfl k) ?_
  show Good p e below _ (T26.setTop (mkF m 43 #[.val (.int p0), .val (.ref b1), .val (.ref b11), .val (.ref sr_26), .unset, .unset, .unset] [(.int (((p0.toUInt32 >>> ((16 : Int32) &&& 31).toUInt32).toInt32) &&& (255 : Int32)))]))
  refine Good.back (fun _ k => XS.iconst X26.here hx rfl (hb hby own_d1_43) k) ?_
  show Good p e below _ (T26.setTop (mkF m 44 #[.val (.int p0), .val (.ref b1), .val (.ref b11), .val (.ref sr_26), .unset, .unset, .unset] [(.int (3 : Int32)), (.int (((p0.toUInt32 >>> ((16 : Int32) &&& 31).toUInt32).toInt32) &&& (255 : Int32)))]))
  refine Good.back (fun _ k => iremM (g := (mkF m 44 #[.val (.int p0), .val (.ref b1), .val (.ref b11), .val (.ref sr_26), .unset, .unset, .unset] [(.int (3 : Int32)), (.int (((p0.toUInt32 >>> ((16 : Int32) &&& 31).toUInt32).toInt32) &&& (255 : Int32)))])) X26 hx rfl (hb hby own_d1_44) rfl (by decide) k) ?_
  show Good p e below _ (T26.setTop (mkF m 45 #[.val (.int p0), .val (.ref b1), .val (.ref b11), .val (.ref sr_26), .unset, .unset, .unset] [(.int ((((p0.toUInt32 >>> ((16 : Int32) &&& 31).toUInt32).toInt32) &&& (255 : Int32)) % (3 : Int32)))]))
  refine Good.back (fun _ k => XS.istore X26.here hx rfl (hb hby own_d1_45) rfl (l' := #[.val (.int p0), .val (.ref b1), .val (.ref b11), .val (.ref sr_26), .val (.int ((((p0.toUInt32 >>> ((16 : Int32) &&& 31).toUInt32).toInt32) &&& (255 : Int32)) % (3 : Int32))), .unset, .unset]) rfl k) ?_
  have key79 : ∀ (ab : Addr) (Tk79 : State) (lk79 : List Loc) (Xk79 : Stand p l e ({ frames := 4, cells := 12, slots := 103, locals := 66 } : Room) (s.setVm s.vm) m #[(.int p0)] below meth c Tk79 lk79 5 11) (Nk79 : Fr n0 lk79) (ek79 : Tk79.heap = T26.heap) , Good p e below (fun o U' => ∃ v L, o = .returned v ∧ Q1 Z p0 cs w_NAME w_SYNTAX w_KEPT h0 n0 v U'.heap L ∧ ReturnedEndW s o U' L ({ frames := 4, cells := 12, slots := 103, locals := 66 } : Room).cells ({ frames := 4, cells := 12, slots := 103, locals := 66 } : Room).slots) (Tk79.setTop (mkF m 79 #[.val (.int p0), .val (.ref b1), .val (.ref b11), .val (.ref sr_26), .val (.int ((((p0.toUInt32 >>> ((16 : Int32) &&& 31).toUInt32).toInt32) &&& (255 : Int32)) % (3 : Int32))), .val (.ref ab), .unset] [])) := by
    intro ab Tk79 lk79 Xk79 Nk79 ek79 
    refine Good.back (fun _ k => XS.iloadN Xk79.here hx rfl (hb hby own_d1_79) rfl k) ?_
    refine Good.back (fun _ k => XS.bipush Xk79.here hx rfl (hb hby own_d1_80) k) ?_
    show Good p e below _ (Tk79.setTop (mkF m 82 #[.val (.int p0), .val (.ref b1), .val (.ref b11), .val (.ref sr_26), .val (.int ((((p0.toUInt32 >>> ((16 : Int32) &&& 31).toUInt32).toInt32) &&& (255 : Int32)) % (3 : Int32))), .val (.ref ab), .unset] [(.int (24 : Int32)), (.int p0)]))
    refine Good.back (fun _ k => XS.iushr Xk79.here hx rfl (hb hby own_d1_82) rfl k) ?_
    show Good p e below _ (Tk79.setTop (mkF m 83 #[.val (.int p0), .val (.ref b1), .val (.ref b11), .val (.ref sr_26), .val (.int ((((p0.toUInt32 >>> ((16 : Int32) &&& 31).toUInt32).toInt32) &&& (255 : Int32)) % (3 : Int32))), .val (.ref ab), .unset] [(.int ((p0.toUInt32 >>> ((24 : Int32) &&& 31).toUInt32).toInt32))]))
    refine Good.back (fun _ k => XS.bipush Xk79.here hx rfl (hb hby own_d1_83) k) ?_
    show Good p e below _ (Tk79.setTop (mkF m 85 #[.val (.int p0), .val (.ref b1), .val (.ref b11), .val (.ref sr_26), .val (.int ((((p0.toUInt32 >>> ((16 : Int32) &&& 31).toUInt32).toInt32) &&& (255 : Int32)) % (3 : Int32))), .val (.ref ab), .unset] [(.int (127 : Int32)), (.int ((p0.toUInt32 >>> ((24 : Int32) &&& 31).toUInt32).toInt32))]))
    refine Good.back (fun _ k => XS.iand Xk79.here hx rfl (hb hby own_d1_85) rfl k) ?_
    show Good p e below _ (Tk79.setTop (mkF m 86 #[.val (.int p0), .val (.ref b1), .val (.ref b11), .val (.ref sr_26), .val (.int ((((p0.toUInt32 >>> ((16 : Int32) &&& 31).toUInt32).toInt32) &&& (255 : Int32)) % (3 : Int32))), .val (.ref ab), .unset] [(.int (((p0.toUInt32 >>> ((24 : Int32) &&& 31).toUInt32).toInt32) &&& (127 : Int32)))]))
    refine Good.back (fun _ k => XS.iconst Xk79.here hx rfl (hb hby own_d1_86) k) ?_
    show Good p e below _ (Tk79.setTop (mkF m 87 #[.val (.int p0), .val (.ref b1), .val (.ref b11), .val (.ref sr_26), .val (.int ((((p0.toUInt32 >>> ((16 : Int32) &&& 31).toUInt32).toInt32) &&& (255 : Int32)) % (3 : Int32))), .val (.ref ab), .unset] [(.int (1 : Int32)), (.int (((p0.toUInt32 >>> ((24 : Int32) &&& 31).toUInt32).toInt32) &&& (127 : Int32)))]))
    refine Good.back (fun _ k => XS.iadd Xk79.here hx rfl (hb hby own_d1_87) rfl k) ?_
    show Good p e below _ (Tk79.setTop (mkF m 88 #[.val (.int p0), .val (.ref b1), .val (.ref b11), .val (.ref sr_26), .val (.int ((((p0.toUInt32 >>> ((16 : Int32) &&& 31).toUInt32).toInt32) &&& (255 : Int32)) % (3 : Int32))), .val (.ref ab), .unset] [(.int ((((p0.toUInt32 >>> ((24 : Int32) &&& 31).toUInt32).toInt32) &&& (127 : Int32)) + (1 : Int32)))]))
    refine Good.back (fun _ k => XS.istore Xk79.here hx rfl (hb hby own_d1_88) rfl (l' := #[.val (.int p0), .val (.ref b1), .val (.ref b11), .val (.ref sr_26), .val (.int ((((p0.toUInt32 >>> ((16 : Int32) &&& 31).toUInt32).toInt32) &&& (255 : Int32)) % (3 : Int32))), .val (.ref ab), .val (.int ((((p0.toUInt32 >>> ((24 : Int32) &&& 31).toUInt32).toInt32) &&& (127 : Int32)) + (1 : Int32)))]) rfl k) ?_
    obtain ⟨T31, h31, X31, e31, E31, A31, D31, -, st31⟩ := newO Xk79 hx hZ0 hown0 (hw _ (own_m 51 rfl)) (hw _ (own_m 52 rfl)) (hw _ (own_m 53 rfl)) ek79 (g := (mkF m 90 #[.val (.int p0), .val (.ref b1), .val (.ref b11), .val (.ref sr_26), .val (.int ((((p0.toUInt32 >>> ((16 : Int32) &&& 31).toUInt32).toInt32) &&& (255 : Int32)) % (3 : Int32))), .val (.ref ab), .val (.int ((((p0.toUInt32 >>> ((24 : Int32) &&& 31).toUInt32).toInt32) &&& (127 : Int32)) + (1 : Int32)))] [])) rfl (hb hby own_d1_90) (by decide) (by decide)
    obtain ⟨b31, g31⟩ : ∃ z, z = T26.heap.size := ⟨_, rfl⟩
    rw [← g31] at A31 D31 st31
    refine Good.back st31 ?_
    have g_b31 : n0 ≤ b31 := Nat.le_trans Z28 (Nat.le_of_eq g31.symm)
    have sz_b31 : h0.size ≤ b31 := Nat.le_trans K30.1 (Nat.le_of_eq g31.symm)
    have Z32 : n0 ≤ h31.size := Nat.le_trans Z28 E31.1
    have hk33 := Nat.le_trans hk29 E31.1
    have K34 : Keep h0 h31 [] := K30.ext E31
    have f_35 : Exa Z h31 b31 "com/example/liken/liken/core/Token" := A31
    have f_36 : Fld Z h31 b31 "com/example/liken/liken/core/Token" "text" "Ljava/lang/String;" .null := D31 (Or.inr (hw _ (own_m 73 rfl))) (ty := (.object "java/lang/String")) (by decide)
    have f_37 : Fld Z h31 b31 "com/example/liken/liken/core/Token" "kind" "Ljava/lang/String;" .null := D31 (Or.inr (hw _ (own_m 75 rfl))) (ty := (.object "java/lang/String")) (by decide)
    have f_38 : Fld Z h31 b31 "com/example/liken/liken/core/Token" "abstraction" "Lcom/example/liken/liken/core/Token$Abstraction;" .null := D31 (Or.inr (hw _ (own_m 77 rfl))) (ty := (.object "com/example/liken/liken/core/Token$Abstraction")) (by decide)
    have f_39 : Fld Z h31 b31 "com/example/liken/liken/core/Token" "line" "I" (.int (0 : Int32)) := D31 (Or.inr (hw _ (own_m 79 rfl))) (ty := .int) (by decide)
    refine Good.back (fun _ k => XS.dup X31.here hx rfl (hb hby own_d1_93) rfl rfl k) ?_
    refine Good.back (fun _ k => XS.aloadN X31.here hx rfl (hb hby own_d1_94) rfl rfl k) ?_
    refine Good.back (fun _ k => XS.aloadN X31.here hx rfl (hb hby own_d1_95) rfl rfl k) ?_
    refine Good.back (fun _ k => XS.aload X31.here hx rfl (hb hby own_d1_96) rfl rfl k) ?_
    show Good p e below _ (T31.setTop (mkF m 98 #[.val (.int p0), .val (.ref b1), .val (.ref b11), .val (.ref sr_26), .val (.int ((((p0.toUInt32 >>> ((16 : Int32) &&& 31).toUInt32).toInt32) &&& (255 : Int32)) % (3 : Int32))), .val (.ref ab), .val (.int ((((p0.toUInt32 >>> ((24 : Int32) &&& 31).toUInt32).toInt32) &&& (127 : Int32)) + (1 : Int32)))] [(.ref ab), (.ref sr_26), (.ref b11), (.ref b31), (.ref b31)]))
    refine Good.back (fun _ k => XS.iload X31.here hx rfl (hb hby own_d1_98) rfl k) ?_
    obtain ⟨_, _, ⟨T40, L40, k40, n40⟩, -, Xc40, hSc40, hgc40, ⟨Lc40, hQ40, l40, y40, z40⟩, st40⟩ := X31.specialBackS hx (y := (⟨"com/example/liken/liken/core/Token", "<init>", "(Ljava/lang/String;Ljava/lang/String;Lcom/example/liken/liken/core/Token$Abstraction;I)V"⟩ : MethodName)) rfl hown0 (mvT hZ0 (hw _ (own_m 54 rfl))) (mvT hZ0 (hw _ (own_m 55 rfl))) (mvT hZ0 (hw _ (own_m 56 rfl))) (by decide) (backOfS (W := 1) (rm12 l Z a0 hw [] b31 b11 sr_26 ab ((((p0.toUInt32 >>> ((24 : Int32) &&& 31).toUInt32).toInt32) &&& (127 : Int32)) + (1 : Int32))  h31 n0 Z32 f_35 g_b31 f_36 f_37 f_38 f_39 (own_line _)) hZ0 (hw _ (own_m 56 rfl)) (hw _ (own_m 53 rfl)) (by decide) (by decide)) (g := (mkF m 100 #[.val (.int p0), .val (.ref b1), .val (.ref b11), .val (.ref sr_26), .val (.int ((((p0.toUInt32 >>> ((16 : Int32) &&& 31).toUInt32).toInt32) &&& (255 : Int32)) % (3 : Int32))), .val (.ref ab), .val (.int ((((p0.toUInt32 >>> ((24 : Int32) &&& 31).toUInt32).toInt32) &&& (127 : Int32)) + (1 : Int32)))] [(.int ((((p0.toUInt32 >>> ((24 : Int32) &&& 31).toUInt32).toInt32) &&& (127 : Int32)) + (1 : Int32))), (.ref ab), (.ref sr_26), (.ref b11), (.ref b31), (.ref b31)])) rfl (by rw [hml]; rfl) (Steps.refl _) (a := b31) (argsL := [(.ref b11), (.ref sr_26), (.ref ab), (.int ((((p0.toUInt32 >>> ((24 : Int32) &&& 31).toUInt32).toInt32) &&& (127 : Int32)) + (1 : Int32)))]) (rest := [(.ref b31)]) (lenOf own_pd170 rfl) rfl (by show 2 * 0 + _ ≤ _; exact Nat.le_of_eq rfl) (hb hby own_d1_100) (fun _ _ => ⟨rfl, e31, (by decide : 6 + 6 ≤ _), (by decide : 15 + 88 ≤ _)⟩)
    dsimp only [Pt.U, Pt.locs, Pt.cells, Pt.slots] at Xc40 hSc40 hgc40 l40 y40 z40 st40 hQ40
    subst l40 y40 z40
    obtain ⟨X40, hS40, hZ40, hown40⟩ := rebS hS0 (by rw [e31]; exact hk33) Xc40 hSc40 hgc40 hZ0 hown0
    obtain ⟨rfl, N40q, Kq40⟩ := hQ40
    have N40 := Fr.app Nk79 N40q
    have Z41 : n0 ≤ T40.heap.size := Nat.le_trans Z32 Kq40.1
    have hk42 := Nat.le_trans hk33 Kq40.1
    have K43 : Keep h0 T40.heap [] := K34.trans Kq40 (allS (Or.inr sz_b31) all0)
    refine Good.back (fun _ k => st40.trans k) ?_
    show Good p e below _ (T40.setTop (mkF m 103 #[.val (.int p0), .val (.ref b1), .val (.ref b11), .val (.ref sr_26), .val (.int ((((p0.toUInt32 >>> ((16 : Int32) &&& 31).toUInt32).toInt32) &&& (255 : Int32)) % (3 : Int32))), .val (.ref ab), .val (.int ((((p0.toUInt32 >>> ((24 : Int32) &&& 31).toUInt32).toInt32) &&& (127 : Int32)) + (1 : Int32)))] [(.ref b31)]))
    obtain ⟨fs44, hr44, hrun44, hended44, hRE44⟩ := leaveW X40 hS40 (Nat.le_refl _) (v := some (.ref b31)) (fun h => by rw [Bd.returns] at h; cases h)
    refine Good.done (retOut X40 hx Bd.returns rfl (Or.inr (Or.inr (Or.inr (Or.inr ⟨rfl, rfl, rfl⟩)))) (hb hby own_d1_103) hr44) hrun44 hended44 ⟨_, _, rfl, ?_, hRE44.1, hRE44.2.1, hRE44.2.2.1, hRE44.2.2.2.mono (by decide) (by decide)⟩
    show Q1 Z p0 cs w_NAME w_SYNTAX w_KEPT h0 n0 _ T40.heap _
    have f_45 : Exa Z T40.heap b31 "com/example/liken/liken/core/Token" := Exa.keep f_35 Kq40
    exact ⟨b31, rfl, N40, K43, sz_b31, f_45⟩
  show Good p e below _ (T26.setTop (mkF m 47 #[.val (.int p0), .val (.ref b1), .val (.ref b11), .val (.ref sr_26), .val (.int ((((p0.toUInt32 >>> ((16 : Int32) &&& 31).toUInt32).toInt32) &&& (255 : Int32)) % (3 : Int32))), .unset, .unset] []))
  refine Good.back (fun _ k => XS.iload X26.here hx rfl (hb hby own_d1_47) rfl k) ?_
  show Good p e below _ (T26.setTop (mkF m 49 #[.val (.int p0), .val (.ref b1), .val (.ref b11), .val (.ref sr_26), .val (.int ((((p0.toUInt32 >>> ((16 : Int32) &&& 31).toUInt32).toInt32) &&& (255 : Int32)) % (3 : Int32))), .unset, .unset] [(.int ((((p0.toUInt32 >>> ((16 : Int32) &&& 31).toUInt32).toInt32) &&& (255 : Int32)) % (3 : Int32)))]))
  by_cases hc49_46 : ((((p0.toUInt32 >>> ((16 : Int32) &&& 31).toUInt32).toInt32) &&& (255 : Int32)) % (3 : Int32)) = (0 : Int32)
  · refine Good.back (fun _ k => XS.ifNo X26.here hx rfl (hb hby own_d1_49) rfl ((if0 _ _).trans (teq hc49_46).2) k) ?_
    show Good p e below _ (T26.setTop (mkF m 52 #[.val (.int p0), .val (.ref b1), .val (.ref b11), .val (.ref sr_26), .val (.int ((((p0.toUInt32 >>> ((16 : Int32) &&& 31).toUInt32).toInt32) &&& (255 : Int32)) % (3 : Int32))), .unset, .unset] []))
    have f_47 : Sta Z h1 "com/example/liken/liken/core/Token$Abstraction" "NAME" "Lcom/example/liken/liken/core/Token$Abstraction;" (.ref w_NAME) := Sta.ext E1 S_wNAME
    have f_48 : Sta Z h6 "com/example/liken/liken/core/Token$Abstraction" "NAME" "Lcom/example/liken/liken/core/Token$Abstraction;" (.ref w_NAME) := Sta.wr W6 f_47
    have f_49 : Sta Z h11 "com/example/liken/liken/core/Token$Abstraction" "NAME" "Lcom/example/liken/liken/core/Token$Abstraction;" (.ref w_NAME) := Sta.ext E11 f_48
    have f_50 : Sta Z T18.heap "com/example/liken/liken/core/Token$Abstraction" "NAME" "Lcom/example/liken/liken/core/Token$Abstraction;" (.ref w_NAME) := own_staKeep f_49 Kq18 (allS (own_plainE f_15) all0)
    have f_51 : Sta Z T26.heap "com/example/liken/liken/core/Token$Abstraction" "NAME" "Lcom/example/liken/liken/core/Token$Abstraction;" (.ref w_NAME) := own_staKeep f_50 Kq26 all0
    obtain ⟨T52, X52, e52, st52⟩ := getS2 X26 hx hZ0 hown0 (host := "") (Or.inl (hw _ (own_m 48 rfl))) Via.refl rfl f_51 (g := (mkF m 52 #[.val (.int p0), .val (.ref b1), .val (.ref b11), .val (.ref sr_26), .val (.int ((((p0.toUInt32 >>> ((16 : Int32) &&& 31).toUInt32).toInt32) &&& (255 : Int32)) % (3 : Int32))), .unset, .unset] [])) rfl (hb hby own_d1_52)
    refine Good.back st52 ?_
    show Good p e below _ (T52.setTop (mkF m 55 #[.val (.int p0), .val (.ref b1), .val (.ref b11), .val (.ref sr_26), .val (.int ((((p0.toUInt32 >>> ((16 : Int32) &&& 31).toUInt32).toInt32) &&& (255 : Int32)) % (3 : Int32))), .unset, .unset] [(.ref w_NAME)]))
    refine Good.back (fun _ k => XS.astore X52.here hx rfl (hb hby own_d1_55) rfl rfl (l' := #[.val (.int p0), .val (.ref b1), .val (.ref b11), .val (.ref sr_26), .val (.int ((((p0.toUInt32 >>> ((16 : Int32) &&& 31).toUInt32).toInt32) &&& (255 : Int32)) % (3 : Int32))), .val (.ref w_NAME), .unset]) rfl k) ?_
    show Good p e below _ (T52.setTop (mkF m 57 #[.val (.int p0), .val (.ref b1), .val (.ref b11), .val (.ref sr_26), .val (.int ((((p0.toUInt32 >>> ((16 : Int32) &&& 31).toUInt32).toInt32) &&& (255 : Int32)) % (3 : Int32))), .val (.ref w_NAME), .unset] []))
    refine Good.back (fun _ k => XS.goto X52.here hx rfl (pc0 := 57) (pc' := 79) rfl (hb hby own_d1_57) (by decide) (by decide) k) ?_
    show Good p e below _ (T52.setTop (mkF m 79 #[.val (.int p0), .val (.ref b1), .val (.ref b11), .val (.ref sr_26), .val (.int ((((p0.toUInt32 >>> ((16 : Int32) &&& 31).toUInt32).toInt32) &&& (255 : Int32)) % (3 : Int32))), .val (.ref w_NAME), .unset] []))
    exact key79 w_NAME _ _ X52 N26 e52 
  · refine Good.back (fun _ k => XS.ifYes X26.here hx rfl (pc0 := 49) (pc' := 60) rfl (hb hby own_d1_49) rfl ((if0 _ _).trans (feq hc49_46).2) (by decide) (by decide) k) ?_
    show Good p e below _ (T26.setTop (mkF m 60 #[.val (.int p0), .val (.ref b1), .val (.ref b11), .val (.ref sr_26), .val (.int ((((p0.toUInt32 >>> ((16 : Int32) &&& 31).toUInt32).toInt32) &&& (255 : Int32)) % (3 : Int32))), .unset, .unset] []))
    refine Good.back (fun _ k => XS.iload X26.here hx rfl (hb hby own_d1_60) rfl k) ?_
    refine Good.back (fun _ k => XS.iconst X26.here hx rfl (hb hby own_d1_62) k) ?_
    show Good p e below _ (T26.setTop (mkF m 63 #[.val (.int p0), .val (.ref b1), .val (.ref b11), .val (.ref sr_26), .val (.int ((((p0.toUInt32 >>> ((16 : Int32) &&& 31).toUInt32).toInt32) &&& (255 : Int32)) % (3 : Int32))), .unset, .unset] [(.int (1 : Int32)), (.int ((((p0.toUInt32 >>> ((16 : Int32) &&& 31).toUInt32).toInt32) &&& (255 : Int32)) % (3 : Int32)))]))
    by_cases hc63_53 : ((((p0.toUInt32 >>> ((16 : Int32) &&& 31).toUInt32).toInt32) &&& (255 : Int32)) % (3 : Int32)) = (1 : Int32)
    · refine Good.back (fun _ k => XS.icmpNo X26.here hx rfl (hb hby own_d1_63) rfl (teq hc63_53).2 k) ?_
      show Good p e below _ (T26.setTop (mkF m 66 #[.val (.int p0), .val (.ref b1), .val (.ref b11), .val (.ref sr_26), .val (.int ((((p0.toUInt32 >>> ((16 : Int32) &&& 31).toUInt32).toInt32) &&& (255 : Int32)) % (3 : Int32))), .unset, .unset] []))
      have f_54 : Sta Z h1 "com/example/liken/liken/core/Token$Abstraction" "SYNTAX" "Lcom/example/liken/liken/core/Token$Abstraction;" (.ref w_SYNTAX) := Sta.ext E1 S_wSYNTAX
      have f_55 : Sta Z h6 "com/example/liken/liken/core/Token$Abstraction" "SYNTAX" "Lcom/example/liken/liken/core/Token$Abstraction;" (.ref w_SYNTAX) := Sta.wr W6 f_54
      have f_56 : Sta Z h11 "com/example/liken/liken/core/Token$Abstraction" "SYNTAX" "Lcom/example/liken/liken/core/Token$Abstraction;" (.ref w_SYNTAX) := Sta.ext E11 f_55
      have f_57 : Sta Z T18.heap "com/example/liken/liken/core/Token$Abstraction" "SYNTAX" "Lcom/example/liken/liken/core/Token$Abstraction;" (.ref w_SYNTAX) := own_staKeep f_56 Kq18 (allS (own_plainE f_15) all0)
      have f_58 : Sta Z T26.heap "com/example/liken/liken/core/Token$Abstraction" "SYNTAX" "Lcom/example/liken/liken/core/Token$Abstraction;" (.ref w_SYNTAX) := own_staKeep f_57 Kq26 all0
      obtain ⟨T59, X59, e59, st59⟩ := getS2 X26 hx hZ0 hown0 (host := "") (Or.inl (hw _ (own_m 309 rfl))) Via.refl rfl f_58 (g := (mkF m 66 #[.val (.int p0), .val (.ref b1), .val (.ref b11), .val (.ref sr_26), .val (.int ((((p0.toUInt32 >>> ((16 : Int32) &&& 31).toUInt32).toInt32) &&& (255 : Int32)) % (3 : Int32))), .unset, .unset] [])) rfl (hb hby own_d1_66)
      refine Good.back st59 ?_
      show Good p e below _ (T59.setTop (mkF m 69 #[.val (.int p0), .val (.ref b1), .val (.ref b11), .val (.ref sr_26), .val (.int ((((p0.toUInt32 >>> ((16 : Int32) &&& 31).toUInt32).toInt32) &&& (255 : Int32)) % (3 : Int32))), .unset, .unset] [(.ref w_SYNTAX)]))
      refine Good.back (fun _ k => XS.astore X59.here hx rfl (hb hby own_d1_69) rfl rfl (l' := #[.val (.int p0), .val (.ref b1), .val (.ref b11), .val (.ref sr_26), .val (.int ((((p0.toUInt32 >>> ((16 : Int32) &&& 31).toUInt32).toInt32) &&& (255 : Int32)) % (3 : Int32))), .val (.ref w_SYNTAX), .unset]) rfl k) ?_
      show Good p e below _ (T59.setTop (mkF m 71 #[.val (.int p0), .val (.ref b1), .val (.ref b11), .val (.ref sr_26), .val (.int ((((p0.toUInt32 >>> ((16 : Int32) &&& 31).toUInt32).toInt32) &&& (255 : Int32)) % (3 : Int32))), .val (.ref w_SYNTAX), .unset] []))
      refine Good.back (fun _ k => XS.goto X59.here hx rfl (pc0 := 71) (pc' := 79) rfl (hb hby own_d1_71) (by decide) (by decide) k) ?_
      show Good p e below _ (T59.setTop (mkF m 79 #[.val (.int p0), .val (.ref b1), .val (.ref b11), .val (.ref sr_26), .val (.int ((((p0.toUInt32 >>> ((16 : Int32) &&& 31).toUInt32).toInt32) &&& (255 : Int32)) % (3 : Int32))), .val (.ref w_SYNTAX), .unset] []))
      exact key79 w_SYNTAX _ _ X59 N26 e59 
    · refine Good.back (fun _ k => XS.icmpYes X26.here hx rfl (pc0 := 63) (pc' := 74) rfl (hb hby own_d1_63) rfl (feq hc63_53).2 (by decide) (by decide) k) ?_
      show Good p e below _ (T26.setTop (mkF m 74 #[.val (.int p0), .val (.ref b1), .val (.ref b11), .val (.ref sr_26), .val (.int ((((p0.toUInt32 >>> ((16 : Int32) &&& 31).toUInt32).toInt32) &&& (255 : Int32)) % (3 : Int32))), .unset, .unset] []))
      have f_60 : Sta Z h1 "com/example/liken/liken/core/Token$Abstraction" "KEPT" "Lcom/example/liken/liken/core/Token$Abstraction;" (.ref w_KEPT) := Sta.ext E1 S_wKEPT
      have f_61 : Sta Z h6 "com/example/liken/liken/core/Token$Abstraction" "KEPT" "Lcom/example/liken/liken/core/Token$Abstraction;" (.ref w_KEPT) := Sta.wr W6 f_60
      have f_62 : Sta Z h11 "com/example/liken/liken/core/Token$Abstraction" "KEPT" "Lcom/example/liken/liken/core/Token$Abstraction;" (.ref w_KEPT) := Sta.ext E11 f_61
      have f_63 : Sta Z T18.heap "com/example/liken/liken/core/Token$Abstraction" "KEPT" "Lcom/example/liken/liken/core/Token$Abstraction;" (.ref w_KEPT) := own_staKeep f_62 Kq18 (allS (own_plainE f_15) all0)
      have f_64 : Sta Z T26.heap "com/example/liken/liken/core/Token$Abstraction" "KEPT" "Lcom/example/liken/liken/core/Token$Abstraction;" (.ref w_KEPT) := own_staKeep f_63 Kq26 all0
      obtain ⟨T65, X65, e65, st65⟩ := getS2 X26 hx hZ0 hown0 (host := "") (Or.inl (hw _ (own_m 311 rfl))) Via.refl rfl f_64 (g := (mkF m 74 #[.val (.int p0), .val (.ref b1), .val (.ref b11), .val (.ref sr_26), .val (.int ((((p0.toUInt32 >>> ((16 : Int32) &&& 31).toUInt32).toInt32) &&& (255 : Int32)) % (3 : Int32))), .unset, .unset] [])) rfl (hb hby own_d1_74)
      refine Good.back st65 ?_
      show Good p e below _ (T65.setTop (mkF m 77 #[.val (.int p0), .val (.ref b1), .val (.ref b11), .val (.ref sr_26), .val (.int ((((p0.toUInt32 >>> ((16 : Int32) &&& 31).toUInt32).toInt32) &&& (255 : Int32)) % (3 : Int32))), .unset, .unset] [(.ref w_KEPT)]))
      refine Good.back (fun _ k => XS.astore X65.here hx rfl (hb hby own_d1_77) rfl rfl (l' := #[.val (.int p0), .val (.ref b1), .val (.ref b11), .val (.ref sr_26), .val (.int ((((p0.toUInt32 >>> ((16 : Int32) &&& 31).toUInt32).toInt32) &&& (255 : Int32)) % (3 : Int32))), .val (.ref w_KEPT), .unset]) rfl k) ?_
      show Good p e below _ (T65.setTop (mkF m 79 #[.val (.int p0), .val (.ref b1), .val (.ref b11), .val (.ref sr_26), .val (.int ((((p0.toUInt32 >>> ((16 : Int32) &&& 31).toUInt32).toInt32) &&& (255 : Int32)) % (3 : Int32))), .val (.ref w_KEPT), .unset] []))
      exact key79 w_KEPT _ _ X65 N26 e65 
theorem own_pn10 : plainName "java/util/AbstractList" = true := by first | (simp [plainName, overriddenIn]; done) | decide +kernel
theorem own_d16_0 : decode jdk_39_method_1_code 0 = .ok (.aload_n 0, 1) := by decide +kernel
theorem own_d16_1 : decode jdk_39_method_1_code 1 = .ok (.invokespecial 1, 3) := by decide +kernel
theorem own_d16_4 : decode jdk_39_method_1_code 4 = .ok (.aload_n 0, 1) := by decide +kernel
theorem own_d16_5 : decode jdk_39_method_1_code 5 = .ok (.iconst 0, 1) := by decide +kernel
theorem own_d16_6 : decode jdk_39_method_1_code 6 = .ok (.putfield 7, 3) := by decide +kernel
theorem own_d16_9 : decode jdk_39_method_1_code 9 = .ok (.return_, 1) := by decide +kernel
theorem own_ef_16A (m : MethodId) (x0 : Addr) : entryFrame m #[(.ref x0)] 1 = mkF m 0 #[.val (.ref x0)] [] := by first | (simp [entryFrame, mkF, argsToLocals, Value.category]; done) | rfl
def Q16A (Z : State) (r0 : Addr) (h0 : Heap) (n0 : Nat) (v : Option Value) (h : Heap) (L : List Loc) : Prop := v = none ∧ Fr n0 L ∧ Keep h0 h [r0] ∧ Fld Z h r0 "java/util/AbstractList" "modCount" "I" (.int (0 : Int32)) ∧ Fld Z h r0 "java/util/ArrayList" "elementData" "[Ljava/lang/Object;" .null ∧ Fld Z h r0 "java/util/ArrayList" "size" "I" (.int (0 : Int32))
set_option maxRecDepth 65536 in
set_option maxHeartbeats 40000000 in
theorem rm16A (l : Launch) (Z : State) (a0 : Array Value) (hw : ∀ d ∈ tables_1, d.before a0 Z = true) (ws : List Jvm.Cond) (r0 : Addr) (h0 : Heap) (n0 : Nat) (Z0 : n0 ≤ h0.size) (E0 : Exa Z h0 r0 "java/util/ArrayList") (g0 : n0 ≤ r0) (F_r0_modCount : Fld Z h0 r0 "java/util/AbstractList" "modCount" "I" (.int (0 : Int32))) (F_r0_elementData : Fld Z h0 r0 "java/util/ArrayList" "elementData" "[Ljava/lang/Object;" .null) (F_r0_size : Fld Z h0 r0 "java/util/ArrayList" "size" "I" (.int (0 : Int32))) :
    MetFree l (⟨"java/util/AbstractList", "<init>", "()V"⟩ : MethodName) (head1 (Jvm.Cond.code (⟨"java/util/AbstractList", "<init>", "()V"⟩ : MethodName) jdk_39_method_1_code 1 none :: ws) ({ frames := 2, cells := 0, slots := 0, locals := 24 } : Room)) (fun a U => a = #[(.ref r0)] ∧ Z.Warmed39 U.vm ∧ U.heap = h0) (fun _ _ _ _ _ => True) (fun _ U o U' => ∃ v L, o = .returned v ∧ Q16A Z r0 h0 n0 v U'.heap L ∧ FrameEnd U o U' L ({ frames := 2, cells := 0, slots := 0, locals := 24 } : Room).cells ({ frames := 2, cells := 0, slots := 0, locals := 24 } : Room).slots) := by
  refine MetFree.of_bodySF (plainFor_of_name own_pn10) hisR ?_
  intro p e s m args below meth c s₁ Bd hml0 hP hK
  obtain ⟨rfl, hZ, hh⟩ := hP
  have hx := Bd.exec
  have hby := Bd.bytes
  have hml : c.maxLocals = 1 := hml0
  have hown : s.vm.findClass "java/util/AbstractList" = some m.cls := findClass_of_methodNamed Bd.named
  have hnm := (name_of_methodNamed Bd.named Bd.method).1
  have X0 : Stand p l e ({ frames := 2, cells := 0, slots := 0, locals := 24 } : Room) s m #[(.ref r0)] below meth c s₁ [] 0 0 := Stand.of_body Bd
  have e0 : s₁.heap = h0 := by rw [← hh, Bd.state]; rfl
  have N0 := Fr.nil n0
  have KR : Keep h0 h0 [r0] := Keep.refl h0 _
  show Good p e below (fun o U' => ∃ v L, o = .returned v ∧ Q16A Z r0 h0 n0 v U'.heap L ∧ FrameEnd s o U' L ({ frames := 2, cells := 0, slots := 0, locals := 24 } : Room).cells ({ frames := 2, cells := 0, slots := 0, locals := 24 } : Room).slots) _
  refine Good.back (S' := s₁.setTop (mkF m 0 #[.val (.ref r0)] [])) (fun t k => castTop (own_ef_16A m r0) k) ?_
  show Good p e below _ (s₁.setTop (mkF m 0 #[.val (.ref r0)] []))
  refine Good.back (fun _ k => XS.aloadN X0.here hx rfl (hb hby own_d16_0) rfl rfl k) ?_
  obtain ⟨_, _, ⟨T1, L1, k1, n1⟩, -, X1, ⟨Lc1, hQ1, l1, y1, z1⟩, st1⟩ := X0.specialBack hx (y := (⟨"java/util/AbstractCollection", "<init>", "()V"⟩ : MethodName)) rfl hown (mvT hZ (hw _ (own_m 92 rfl))) (mvT hZ (hw _ (own_m 93 rfl))) (mvT hZ (hw _ (own_m 97 rfl))) (by decide) (backOf (W := 0) (rm17 l Z a0 hw [] r0  h0 n0 Z0 ) hZ (hw _ (own_m 97 rfl)) (hw _ (own_m 96 rfl)) (by decide) (by decide)) (g := (mkF m 1 #[.val (.ref r0)] [(.ref r0)])) rfl (by rw [hml]; rfl) (Steps.refl _) (a := r0) (argsL := []) (rest := []) (lenOf own_pd122 rfl) rfl (by show 2 * 0 + _ ≤ _; exact Nat.le_of_eq rfl) (hb hby own_d16_1) (fun _ _ => ⟨rfl, e0, (by decide : 0 + 0 ≤ _), (by decide : 0 + 0 ≤ _)⟩)
  dsimp only [Pt.U, Pt.locs, Pt.cells, Pt.slots] at X1 l1 y1 z1 st1 hQ1
  subst l1 y1 z1
  obtain ⟨rfl, N1q, eh1⟩ := hQ1
  have N1 := Fr.app N0 N1q
  refine Good.back (fun _ k => st1.trans k) ?_
  refine Good.back (fun _ k => XS.aloadN X1.here hx rfl (hb hby own_d16_4) rfl rfl k) ?_
  refine Good.back (fun _ k => XS.iconst X1.here hx rfl (hb hby own_d16_5) k) ?_
  obtain ⟨T2, h2, X2, e2, W2, st2⟩ := putF X1 hx hZ hown (host := "") (Or.inl (hw _ (own_m 99 rfl))) Via.refl eh1 F_r0_modCount E0 (Or.inl (hw _ (own_m 100 rfl))) (hw _ (own_m 81 rfl)) (ty := .int) (by decide) rfl rfl (g := (mkF m 6 #[.val (.ref r0)] [(.int (0 : Int32)), (.ref r0)])) rfl rfl (hb hby own_d16_6)
  refine Good.back st2 ?_
  have f_3 : Fld Z h2 r0 "java/util/AbstractList" "modCount" "I" (.int (0 : Int32)) := Fld.same W2 F_r0_modCount
  have N2 := Fr.snoc X2 N1 g0
  have Z4 : n0 ≤ h2.size := Nat.le_trans Z0 (Keep.of_wr W2).1
  have K5 : Keep h0 h2 [r0] := KR.wr W2 (Or.inl (List.mem_of_getElem? (i := 0) rfl))
  show Good p e below _ (T2.setTop (mkF m 9 #[.val (.ref r0)] []))
  obtain ⟨fs6, hr6, hrun6, hended6, hW6, hsame6⟩ := X2.leave (v := none) (fun _ => rfl)
  refine Good.done (X2.returnOut hx Bd.returns (hb hby own_d16_9) hr6) hrun6 hended6 ⟨_, _, rfl, ?_, ⟨_, rfl⟩, hW6, hsame6.mono (by decide) (by decide)⟩
  show Q16A Z r0 h0 n0 _ T2.heap _
  rw [e2]
  have f_7 : Fld Z h2 r0 "java/util/ArrayList" "elementData" "[Ljava/lang/Object;" .null := Fld.other W2 F_r0_elementData (Or.inr (slot_ne (Or.inl (hw _ (own_m 103 rfl))) (Or.inl (hw _ (own_m 100 rfl))) (by decide) (t := (.array (.object "java/lang/Object"))) (t' := .int) (by decide) (by decide)))
  have f_8 : Fld Z h2 r0 "java/util/ArrayList" "size" "I" (.int (0 : Int32)) := Fld.other W2 F_r0_size (Or.inr (slot_ne (Or.inl (hw _ (own_m 136 rfl))) (Or.inl (hw _ (own_m 100 rfl))) (by decide) (t := .int) (t' := .int) (by decide) (by decide)))
  exact ⟨rfl, N2, K5, f_3, f_7, f_8⟩
theorem own_ef_16T (m : MethodId) (x0 : Addr) : entryFrame m #[(.ref x0)] 1 = mkF m 0 #[.val (.ref x0)] [] := by first | (simp [entryFrame, mkF, argsToLocals, Value.category]; done) | rfl
def Q16T (Z : State) (r0 : Addr) (h0 : Heap) (n0 : Nat) (v : Option Value) (h : Heap) (L : List Loc) : Prop := v = none ∧ Fr n0 L ∧ Keep h0 h [r0] ∧ Fld Z h r0 "java/util/AbstractList" "modCount" "I" (.int (0 : Int32)) ∧ Fld Z h r0 "com/example/liken/liken/core/TokenSlice" "all" "Ljava/util/List;" .null ∧ Fld Z h r0 "com/example/liken/liken/core/TokenSlice" "from" "I" (.int (0 : Int32)) ∧ Fld Z h r0 "com/example/liken/liken/core/TokenSlice" "size" "I" (.int (0 : Int32))
set_option maxRecDepth 65536 in
set_option maxHeartbeats 40000000 in
theorem rm16T (l : Launch) (Z : State) (a0 : Array Value) (hw : ∀ d ∈ tables_1, d.before a0 Z = true) (ws : List Jvm.Cond) (r0 : Addr) (h0 : Heap) (n0 : Nat) (Z0 : n0 ≤ h0.size) (E0 : Exa Z h0 r0 "com/example/liken/liken/core/TokenSlice") (g0 : n0 ≤ r0) (F_r0_modCount : Fld Z h0 r0 "java/util/AbstractList" "modCount" "I" (.int (0 : Int32))) (F_r0_all : Fld Z h0 r0 "com/example/liken/liken/core/TokenSlice" "all" "Ljava/util/List;" .null) (F_r0_from : Fld Z h0 r0 "com/example/liken/liken/core/TokenSlice" "from" "I" (.int (0 : Int32))) (F_r0_size : Fld Z h0 r0 "com/example/liken/liken/core/TokenSlice" "size" "I" (.int (0 : Int32))) :
    MetFree l (⟨"java/util/AbstractList", "<init>", "()V"⟩ : MethodName) (head1 (Jvm.Cond.code (⟨"java/util/AbstractList", "<init>", "()V"⟩ : MethodName) jdk_39_method_1_code 1 none :: ws) ({ frames := 2, cells := 0, slots := 0, locals := 24 } : Room)) (fun a U => a = #[(.ref r0)] ∧ Z.Warmed39 U.vm ∧ U.heap = h0) (fun _ _ _ _ _ => True) (fun _ U o U' => ∃ v L, o = .returned v ∧ Q16T Z r0 h0 n0 v U'.heap L ∧ FrameEnd U o U' L ({ frames := 2, cells := 0, slots := 0, locals := 24 } : Room).cells ({ frames := 2, cells := 0, slots := 0, locals := 24 } : Room).slots) := by
  refine MetFree.of_bodySF (plainFor_of_name own_pn10) hisR ?_
  intro p e s m args below meth c s₁ Bd hml0 hP hK
  obtain ⟨rfl, hZ, hh⟩ := hP
  have hx := Bd.exec
  have hby := Bd.bytes
  have hml : c.maxLocals = 1 := hml0
  have hown : s.vm.findClass "java/util/AbstractList" = some m.cls := findClass_of_methodNamed Bd.named
  have hnm := (name_of_methodNamed Bd.named Bd.method).1
  have X0 : Stand p l e ({ frames := 2, cells := 0, slots := 0, locals := 24 } : Room) s m #[(.ref r0)] below meth c s₁ [] 0 0 := Stand.of_body Bd
  have e0 : s₁.heap = h0 := by rw [← hh, Bd.state]; rfl
  have N0 := Fr.nil n0
  have KR : Keep h0 h0 [r0] := Keep.refl h0 _
  show Good p e below (fun o U' => ∃ v L, o = .returned v ∧ Q16T Z r0 h0 n0 v U'.heap L ∧ FrameEnd s o U' L ({ frames := 2, cells := 0, slots := 0, locals := 24 } : Room).cells ({ frames := 2, cells := 0, slots := 0, locals := 24 } : Room).slots) _
  refine Good.back (S' := s₁.setTop (mkF m 0 #[.val (.ref r0)] [])) (fun t k => castTop (own_ef_16T m r0) k) ?_
  show Good p e below _ (s₁.setTop (mkF m 0 #[.val (.ref r0)] []))
  refine Good.back (fun _ k => XS.aloadN X0.here hx rfl (hb hby own_d16_0) rfl rfl k) ?_
  obtain ⟨_, _, ⟨T1, L1, k1, n1⟩, -, X1, ⟨Lc1, hQ1, l1, y1, z1⟩, st1⟩ := X0.specialBack hx (y := (⟨"java/util/AbstractCollection", "<init>", "()V"⟩ : MethodName)) rfl hown (mvT hZ (hw _ (own_m 92 rfl))) (mvT hZ (hw _ (own_m 93 rfl))) (mvT hZ (hw _ (own_m 97 rfl))) (by decide) (backOf (W := 0) (rm17 l Z a0 hw [] r0  h0 n0 Z0 ) hZ (hw _ (own_m 97 rfl)) (hw _ (own_m 96 rfl)) (by decide) (by decide)) (g := (mkF m 1 #[.val (.ref r0)] [(.ref r0)])) rfl (by rw [hml]; rfl) (Steps.refl _) (a := r0) (argsL := []) (rest := []) (lenOf own_pd122 rfl) rfl (by show 2 * 0 + _ ≤ _; exact Nat.le_of_eq rfl) (hb hby own_d16_1) (fun _ _ => ⟨rfl, e0, (by decide : 0 + 0 ≤ _), (by decide : 0 + 0 ≤ _)⟩)
  dsimp only [Pt.U, Pt.locs, Pt.cells, Pt.slots] at X1 l1 y1 z1 st1 hQ1
  subst l1 y1 z1
  obtain ⟨rfl, N1q, eh1⟩ := hQ1
  have N1 := Fr.app N0 N1q
  refine Good.back (fun _ k => st1.trans k) ?_
  refine Good.back (fun _ k => XS.aloadN X1.here hx rfl (hb hby own_d16_4) rfl rfl k) ?_
  refine Good.back (fun _ k => XS.iconst X1.here hx rfl (hb hby own_d16_5) k) ?_
  obtain ⟨T2, h2, X2, e2, W2, st2⟩ := putF X1 hx hZ hown (host := "") (Or.inl (hw _ (own_m 99 rfl))) Via.refl eh1 F_r0_modCount E0 (Or.inl (hw _ (own_m 159 rfl))) (hw _ (own_m 141 rfl)) (ty := .int) (by decide) rfl rfl (g := (mkF m 6 #[.val (.ref r0)] [(.int (0 : Int32)), (.ref r0)])) rfl rfl (hb hby own_d16_6)
  refine Good.back st2 ?_
  have f_3 : Fld Z h2 r0 "java/util/AbstractList" "modCount" "I" (.int (0 : Int32)) := Fld.same W2 F_r0_modCount
  have N2 := Fr.snoc X2 N1 g0
  have Z4 : n0 ≤ h2.size := Nat.le_trans Z0 (Keep.of_wr W2).1
  have K5 : Keep h0 h2 [r0] := KR.wr W2 (Or.inl (List.mem_of_getElem? (i := 0) rfl))
  show Good p e below _ (T2.setTop (mkF m 9 #[.val (.ref r0)] []))
  obtain ⟨fs6, hr6, hrun6, hended6, hW6, hsame6⟩ := X2.leave (v := none) (fun _ => rfl)
  refine Good.done (X2.returnOut hx Bd.returns (hb hby own_d16_9) hr6) hrun6 hended6 ⟨_, _, rfl, ?_, ⟨_, rfl⟩, hW6, hsame6.mono (by decide) (by decide)⟩
  show Q16T Z r0 h0 n0 _ T2.heap _
  rw [e2]
  have f_7 : Fld Z h2 r0 "com/example/liken/liken/core/TokenSlice" "all" "Ljava/util/List;" .null := Fld.other W2 F_r0_all (Or.inr (slot_ne (Or.inr (hw _ (own_m 161 rfl))) (Or.inl (hw _ (own_m 159 rfl))) (by decide) (t := (.object "java/util/List")) (t' := .int) (by decide) (by decide)))
  have f_8 : Fld Z h2 r0 "com/example/liken/liken/core/TokenSlice" "from" "I" (.int (0 : Int32)) := Fld.other W2 F_r0_from (Or.inr (slot_ne (Or.inr (hw _ (own_m 163 rfl))) (Or.inl (hw _ (own_m 159 rfl))) (by decide) (t := .int) (t' := .int) (by decide) (by decide)))
  have f_9 : Fld Z h2 r0 "com/example/liken/liken/core/TokenSlice" "size" "I" (.int (0 : Int32)) := Fld.other W2 F_r0_size (Or.inr (slot_ne (Or.inr (hw _ (own_m 165 rfl))) (Or.inl (hw _ (own_m 159 rfl))) (by decide) (t := .int) (t' := .int) (by decide) (by decide)))
  exact ⟨rfl, N2, K5, f_3, f_7, f_8, f_9⟩
theorem own_pn11 : plainName "java/util/ArrayList" = true := by first | (simp [plainName, overriddenIn]; done) | decide +kernel
theorem own_d15_0 : decode jdk_38_method_2_code 0 = .ok (.aload_n 0, 1) := by decide +kernel
theorem own_d15_1 : decode jdk_38_method_2_code 1 = .ok (.invokespecial 1, 3) := by decide +kernel
theorem own_d15_4 : decode jdk_38_method_2_code 4 = .ok (.aload_n 0, 1) := by decide +kernel
theorem own_d15_5 : decode jdk_38_method_2_code 5 = .ok (.getstatic 39, 3) := by decide +kernel
theorem own_d15_8 : decode jdk_38_method_2_code 8 = .ok (.putfield 9, 3) := by decide +kernel
theorem own_d15_11 : decode jdk_38_method_2_code 11 = .ok (.return_, 1) := by decide +kernel
theorem own_ef_15 (m : MethodId) (x0 : Addr) : entryFrame m #[(.ref x0)] 1 = mkF m 0 #[.val (.ref x0)] [] := by first | (simp [entryFrame, mkF, argsToLocals, Value.category]; done) | rfl
def Q15 (Z : State) (r0 : Addr) (de : Addr) (h0 : Heap) (n0 : Nat) (v : Option Value) (h : Heap) (L : List Loc) : Prop := v = none ∧ Fr n0 L ∧ Keep h0 h [r0] ∧ Fld Z h r0 "java/util/ArrayList" "elementData" "[Ljava/lang/Object;" (.ref de) ∧ Fld Z h r0 "java/util/ArrayList" "size" "I" (.int (0 : Int32)) ∧ Fld Z h r0 "java/util/AbstractList" "modCount" "I" (.int (0 : Int32))
set_option maxRecDepth 65536 in
set_option maxHeartbeats 40000000 in
theorem rm15 (l : Launch) (Z : State) (a0 : Array Value) (hw : ∀ d ∈ tables_1, d.before a0 Z = true) (ws : List Jvm.Cond) (r0 : Addr) (de : Addr) (h0 : Heap) (n0 : Nat) (Z0 : n0 ≤ h0.size) (E0 : Exa Z h0 r0 "java/util/ArrayList") (g0 : n0 ≤ r0) (Fm : Fld Z h0 r0 "java/util/AbstractList" "modCount" "I" (.int (0 : Int32))) (Fe : Fld Z h0 r0 "java/util/ArrayList" "elementData" "[Ljava/lang/Object;" .null) (Fs : Fld Z h0 r0 "java/util/ArrayList" "size" "I" (.int (0 : Int32))) (S_de : Sta Z h0 "java/util/ArrayList" "DEFAULTCAPACITY_EMPTY_ELEMENTDATA" "[Ljava/lang/Object;" (.ref de)) :
    MetFree l (⟨"java/util/ArrayList", "<init>", "()V"⟩ : MethodName) (head1 (Jvm.Cond.code (⟨"java/util/ArrayList", "<init>", "()V"⟩ : MethodName) jdk_38_method_2_code 1 none :: ws) ({ frames := 3, cells := 0, slots := 0, locals := 36 } : Room)) (fun a U => a = #[(.ref r0)] ∧ Z.Warmed39 U.vm ∧ U.heap = h0) (fun _ _ _ _ _ => True) (fun _ U o U' => ∃ v L, o = .returned v ∧ Q15 Z r0 de h0 n0 v U'.heap L ∧ FrameEnd U o U' L ({ frames := 3, cells := 0, slots := 0, locals := 36 } : Room).cells ({ frames := 3, cells := 0, slots := 0, locals := 36 } : Room).slots) := by
  refine MetFree.of_bodySF (plainFor_of_name own_pn11) hisR ?_
  intro p e s m args below meth c s₁ Bd hml0 hP hK
  obtain ⟨rfl, hZ, hh⟩ := hP
  have hx := Bd.exec
  have hby := Bd.bytes
  have hml : c.maxLocals = 1 := hml0
  have hown : s.vm.findClass "java/util/ArrayList" = some m.cls := findClass_of_methodNamed Bd.named
  have hnm := (name_of_methodNamed Bd.named Bd.method).1
  have X0 : Stand p l e ({ frames := 3, cells := 0, slots := 0, locals := 36 } : Room) s m #[(.ref r0)] below meth c s₁ [] 0 0 := Stand.of_body Bd
  have e0 : s₁.heap = h0 := by rw [← hh, Bd.state]; rfl
  have N0 := Fr.nil n0
  have KR : Keep h0 h0 [r0] := Keep.refl h0 _
  show Good p e below (fun o U' => ∃ v L, o = .returned v ∧ Q15 Z r0 de h0 n0 v U'.heap L ∧ FrameEnd s o U' L ({ frames := 3, cells := 0, slots := 0, locals := 36 } : Room).cells ({ frames := 3, cells := 0, slots := 0, locals := 36 } : Room).slots) _
  refine Good.back (S' := s₁.setTop (mkF m 0 #[.val (.ref r0)] [])) (fun t k => castTop (own_ef_15 m r0) k) ?_
  show Good p e below _ (s₁.setTop (mkF m 0 #[.val (.ref r0)] []))
  refine Good.back (fun _ k => XS.aloadN X0.here hx rfl (hb hby own_d15_0) rfl rfl k) ?_
  obtain ⟨_, _, ⟨T1, L1, k1, n1⟩, -, X1, ⟨Lc1, hQ1, l1, y1, z1⟩, st1⟩ := X0.specialBack hx (y := (⟨"java/util/AbstractList", "<init>", "()V"⟩ : MethodName)) rfl hown (mvT hZ (hw _ (own_m 86 rfl))) (mvT hZ (hw _ (own_m 87 rfl))) (mvT hZ (hw _ (own_m 91 rfl))) (by decide) (backOf (W := 0) (rm16A l Z a0 hw [] r0  h0 n0 Z0 E0 g0 Fm Fe Fs) hZ (hw _ (own_m 91 rfl)) (hw _ (own_m 90 rfl)) (by decide) (by decide)) (g := (mkF m 1 #[.val (.ref r0)] [(.ref r0)])) rfl (by rw [hml]; rfl) (Steps.refl _) (a := r0) (argsL := []) (rest := []) (lenOf own_pd122 rfl) rfl (by show 2 * 0 + _ ≤ _; exact Nat.le_of_eq rfl) (hb hby own_d15_1) (fun _ _ => ⟨rfl, e0, (by decide : 0 + 0 ≤ _), (by decide : 0 + 0 ≤ _)⟩)
  dsimp only [Pt.U, Pt.locs, Pt.cells, Pt.slots] at X1 l1 y1 z1 st1 hQ1
  subst l1 y1 z1
  obtain ⟨rfl, N1q, Kq1, o1_0, o1_1, o1_2⟩ := hQ1
  have N1 := Fr.app N0 N1q
  have Z2 : n0 ≤ T1.heap.size := Nat.le_trans Z0 Kq1.1
  have K3 : Keep h0 T1.heap [r0] := KR.trans Kq1 (allS (Or.inl (List.mem_of_getElem? (i := 0) rfl)) all0)
  refine Good.back (fun _ k => st1.trans k) ?_
  refine Good.back (fun _ k => XS.aloadN X1.here hx rfl (hb hby own_d15_4) rfl rfl k) ?_
  have f_4 : Sta Z T1.heap "java/util/ArrayList" "DEFAULTCAPACITY_EMPTY_ELEMENTDATA" "[Ljava/lang/Object;" (.ref de) := own_staKeep S_de Kq1 (allS (own_plainE E0) all0)
  obtain ⟨T5, X5, e5, st5⟩ := getS2 X1 hx hZ hown (host := "") (Or.inl (hw _ (own_m 101 rfl))) Via.refl rfl f_4 (g := (mkF m 5 #[.val (.ref r0)] [(.ref r0)])) rfl (hb hby own_d15_5)
  refine Good.back st5 ?_
  have f_6 : Exa Z T1.heap r0 "java/util/ArrayList" := Exa.keep E0 Kq1
  obtain ⟨T7, h7, X7, e7, W7, st7⟩ := putF X5 hx hZ hown (host := "") (Or.inl (hw _ (own_m 102 rfl))) Via.refl e5 o1_1 f_6 (Or.inl (hw _ (own_m 103 rfl))) (hw _ (own_m 81 rfl)) (ty := (.array (.object "java/lang/Object"))) (by decide) rfl rfl (g := (mkF m 8 #[.val (.ref r0)] [(.ref de), (.ref r0)])) rfl rfl (hb hby own_d15_8)
  refine Good.back st7 ?_
  have f_8 : Fld Z h7 r0 "java/util/ArrayList" "elementData" "[Ljava/lang/Object;" (.ref de) := Fld.same W7 o1_1
  have N7 := Fr.snoc X7 N1 g0
  have Z9 : n0 ≤ h7.size := Nat.le_trans Z2 (Keep.of_wr W7).1
  have K10 : Keep h0 h7 [r0] := K3.wr W7 (Or.inl (List.mem_of_getElem? (i := 0) rfl))
  show Good p e below _ (T7.setTop (mkF m 11 #[.val (.ref r0)] []))
  obtain ⟨fs11, hr11, hrun11, hended11, hW11, hsame11⟩ := X7.leave (v := none) (fun _ => rfl)
  refine Good.done (X7.returnOut hx Bd.returns (hb hby own_d15_11) hr11) hrun11 hended11 ⟨_, _, rfl, ?_, ⟨_, rfl⟩, hW11, hsame11.mono (by decide) (by decide)⟩
  show Q15 Z r0 de h0 n0 _ T7.heap _
  rw [e7]
  have f_12 : Fld Z h7 r0 "java/util/ArrayList" "size" "I" (.int (0 : Int32)) := Fld.other W7 o1_2 (Or.inr (slot_ne (Or.inl (hw _ (own_m 136 rfl))) (Or.inl (hw _ (own_m 103 rfl))) (by decide) (t := .int) (t' := (.array (.object "java/lang/Object"))) (by decide) (by decide)))
  have f_13 : Fld Z h7 r0 "java/util/AbstractList" "modCount" "I" (.int (0 : Int32)) := Fld.other W7 o1_0 (Or.inr (slot_ne (Or.inl (hw _ (own_m 100 rfl))) (Or.inl (hw _ (own_m 103 rfl))) (by decide) (t := .int) (t' := (.array (.object "java/lang/Object"))) (by decide) (by decide)))
  exact ⟨rfl, N7, K10, f_8, f_12, f_13⟩
theorem own_d33_0 : decode jdk_29_method_65_code 0 = .ok (.iload_n 0, 1) := by decide +kernel
theorem own_d33_1 : decode jdk_29_method_65_code 1 = .ok (.iload_n 1, 1) := by decide +kernel
theorem own_d33_2 : decode jdk_29_method_65_code 2 = .ok (.if_icmp .lt 7, 3) := by decide +kernel
theorem own_d33_5 : decode jdk_29_method_65_code 5 = .ok (.iload_n 0, 1) := by decide +kernel
theorem own_d33_6 : decode jdk_29_method_65_code 6 = .ok (.goto 4, 3) := by decide +kernel
theorem own_d33_10 : decode jdk_29_method_65_code 10 = .ok (.ireturn, 1) := by decide +kernel
theorem own_ef_33 (m : MethodId) (x0 : Int32) (x1 : Int32) : entryFrame m #[(.int x0), (.int x1)] 2 = mkF m 0 #[.val (.int x0), .val (.int x1)] [] := by first | (simp [entryFrame, mkF, argsToLocals, Value.category]; done) | rfl
def Q33 (Z : State)  (h0 : Heap) (n0 : Nat) (v : Option Value) (h : Heap) (L : List Loc) : Prop := v = some (.int (10 : Int32)) ∧ Fr n0 L ∧ h = h0
set_option maxRecDepth 65536 in
set_option maxHeartbeats 40000000 in
theorem rm33 (l : Launch) (Z : State) (a0 : Array Value) (hw : ∀ d ∈ tables_1, d.before a0 Z = true) (ws : List Jvm.Cond)  (h0 : Heap) (n0 : Nat) (Z0 : n0 ≤ h0.size)  :
    MetFree l (⟨"java/lang/Math", "max", "(II)I"⟩ : MethodName) (head1 (Jvm.Cond.code (⟨"java/lang/Math", "max", "(II)I"⟩ : MethodName) jdk_29_method_65_code 2 (some .int) :: ws) ({ frames := 0, cells := 0, slots := 0, locals := 0 } : Room)) (fun a U => a = #[(.int (10 : Int32)), (.int (1 : Int32))] ∧ Z.Warmed39 U.vm ∧ U.heap = h0) (fun _ _ _ _ _ => True) (fun _ U o U' => ∃ v L, o = .returned v ∧ Q33 Z  h0 n0 v U'.heap L ∧ FrameEnd U o U' L ({ frames := 0, cells := 0, slots := 0, locals := 0 } : Room).cells ({ frames := 0, cells := 0, slots := 0, locals := 0 } : Room).slots) := by
  refine MetFree.of_bodySF (Jvm.Free.JP.mathPlain rfl (by decide +kernel)) hisR ?_
  intro p e s m args below meth c s₁ Bd hml0 hP hK
  obtain ⟨rfl, hZ, hh⟩ := hP
  have hx := Bd.exec
  have hby := Bd.bytes
  have hml : c.maxLocals = 2 := hml0
  have hown : s.vm.findClass "java/lang/Math" = some m.cls := findClass_of_methodNamed Bd.named
  have hnm := (name_of_methodNamed Bd.named Bd.method).1
  have X0 : Stand p l e ({ frames := 0, cells := 0, slots := 0, locals := 0 } : Room) s m #[(.int (10 : Int32)), (.int (1 : Int32))] below meth c s₁ [] 0 0 := Stand.of_body Bd
  have e0 : s₁.heap = h0 := by rw [← hh, Bd.state]; rfl
  have N0 := Fr.nil n0
  show Good p e below (fun o U' => ∃ v L, o = .returned v ∧ Q33 Z  h0 n0 v U'.heap L ∧ FrameEnd s o U' L ({ frames := 0, cells := 0, slots := 0, locals := 0 } : Room).cells ({ frames := 0, cells := 0, slots := 0, locals := 0 } : Room).slots) _
  refine Good.back (S' := s₁.setTop (mkF m 0 #[.val (.int (10 : Int32)), .val (.int (1 : Int32))] [])) (fun t k => castTop (own_ef_33 m (10 : Int32) (1 : Int32)) k) ?_
  show Good p e below _ (s₁.setTop (mkF m 0 #[.val (.int (10 : Int32)), .val (.int (1 : Int32))] []))
  refine Good.back (fun _ k => XS.iloadN X0.here hx rfl (hb hby own_d33_0) rfl k) ?_
  refine Good.back (fun _ k => XS.iloadN X0.here hx rfl (hb hby own_d33_1) rfl k) ?_
  show Good p e below _ (s₁.setTop (mkF m 2 #[.val (.int (10 : Int32)), .val (.int (1 : Int32))] [(.int (1 : Int32)), (.int (10 : Int32))]))
  refine Good.back (fun _ k => XS.icmpNo X0.here hx rfl (hb hby own_d33_2) rfl (flt (by decide : ¬ ((10 : Int32) < (1 : Int32)))).1 k) ?_
  show Good p e below _ (s₁.setTop (mkF m 5 #[.val (.int (10 : Int32)), .val (.int (1 : Int32))] []))
  refine Good.back (fun _ k => XS.iloadN X0.here hx rfl (hb hby own_d33_5) rfl k) ?_
  show Good p e below _ (s₁.setTop (mkF m 6 #[.val (.int (10 : Int32)), .val (.int (1 : Int32))] [(.int (10 : Int32))]))
  refine Good.back (fun _ k => XS.goto X0.here hx rfl (pc0 := 6) (pc' := 10) rfl (hb hby own_d33_6) (by decide) (by decide) k) ?_
  show Good p e below _ (s₁.setTop (mkF m 10 #[.val (.int (10 : Int32)), .val (.int (1 : Int32))] [(.int (10 : Int32))]))
  obtain ⟨fs1, hr1, hrun1, hended1, hW1, hsame1⟩ := X0.leave (v := some (.int (10 : Int32))) (fun h => by rw [Bd.returns] at h; cases h)
  refine Good.done (retI X0 hx Bd.returns (hb hby own_d33_10) hr1) hrun1 hended1 ⟨_, _, rfl, ?_, ⟨_, rfl⟩, hW1, hsame1.mono (by decide) (by decide)⟩
  show Q33 Z  h0 n0 _ s₁.heap _
  rw [e0]
  exact ⟨rfl, N0, rfl⟩
theorem own_pd249 : parseMethodDescriptor "(II)I" = some ⟨[.int, .int], some .int⟩ := by decide +kernel
theorem own_d32_0 : decode jdk_38_method_6_code 0 = .ok (.aload_n 0, 1) := by decide +kernel
theorem own_d32_1 : decode jdk_38_method_6_code 1 = .ok (.getfield 9, 3) := by decide +kernel
theorem own_d32_4 : decode jdk_38_method_6_code 4 = .ok (.arraylength, 1) := by decide +kernel
theorem own_d32_5 : decode jdk_38_method_6_code 5 = .ok (.istore_n 2, 1) := by decide +kernel
theorem own_d32_6 : decode jdk_38_method_6_code 6 = .ok (.iload_n 2, 1) := by decide +kernel
theorem own_d32_7 : decode jdk_38_method_6_code 7 = .ok (.ifCond .gt 13, 3) := by decide +kernel
theorem own_d32_10 : decode jdk_38_method_6_code 10 = .ok (.aload_n 0, 1) := by decide +kernel
theorem own_d32_11 : decode jdk_38_method_6_code 11 = .ok (.getfield 9, 3) := by decide +kernel
theorem own_d32_14 : decode jdk_38_method_6_code 14 = .ok (.getstatic 39, 3) := by decide +kernel
theorem own_d32_17 : decode jdk_38_method_6_code 17 = .ok (.if_acmp .eq 28, 3) := by decide +kernel
theorem own_d32_45 : decode jdk_38_method_6_code 45 = .ok (.aload_n 0, 1) := by decide +kernel
theorem own_d32_46 : decode jdk_38_method_6_code 46 = .ok (.bipush 10, 2) := by decide +kernel
theorem own_d32_48 : decode jdk_38_method_6_code 48 = .ok (.iload_n 1, 1) := by decide +kernel
theorem own_d32_49 : decode jdk_38_method_6_code 49 = .ok (.invokestatic 79, 3) := by decide +kernel
theorem own_d32_52 : decode jdk_38_method_6_code 52 = .ok (.anewarray 7, 3) := by decide +kernel
theorem own_d32_55 : decode jdk_38_method_6_code 55 = .ok (.dup_x1, 1) := by decide +kernel
theorem own_d32_56 : decode jdk_38_method_6_code 56 = .ok (.putfield 9, 3) := by decide +kernel
theorem own_d32_59 : decode jdk_38_method_6_code 59 = .ok (.areturn, 1) := by decide +kernel
theorem own_ef_32 (m : MethodId) (x0 : Addr) (x1 : Int32) : entryFrame m #[(.ref x0), (.int x1)] 4 = mkF m 0 #[.val (.ref x0), .val (.int x1), .unset, .unset] [] := by first | (simp [entryFrame, mkF, argsToLocals, Value.category]; done) | rfl
def Q32 (Z : State) (r0 : Addr) (de : Addr) (kd : ClassId) (mc : Int32) (h0 : Heap) (n0 : Nat) (v : Option Value) (h : Heap) (L : List Loc) : Prop := ∃ (ar : Addr) (kk : ClassId), v = some (.ref ar) ∧ Fr n0 L ∧ Keep h0 h [r0] ∧ h0.size ≤ ar ∧ Exa Z h ar "[Ljava/lang/Object;" ∧ Arv Z h ar kk (.object "java/lang/Object") (10 : Int32) [.null, .null, .null, .null, .null, .null, .null, .null, .null, .null] .null ∧ Ovr Z kk "java/lang/Object" ∧ Fld Z h r0 "java/util/ArrayList" "elementData" "[Ljava/lang/Object;" (.ref ar) ∧ Fld Z h r0 "java/util/ArrayList" "size" "I" (.int (0 : Int32)) ∧ Fld Z h r0 "java/util/AbstractList" "modCount" "I" (.int mc)
set_option maxRecDepth 65536 in
set_option maxHeartbeats 40000000 in
theorem rm32 (l : Launch) (Z : State) (a0 : Array Value) (hw : ∀ d ∈ tables_1, d.before a0 Z = true) (ws : List Jvm.Cond) (r0 : Addr) (de : Addr) (kd : ClassId) (mc : Int32) (h0 : Heap) (n0 : Nat) (Z0 : n0 ≤ h0.size) (E0 : Exa Z h0 r0 "java/util/ArrayList") (g0 : n0 ≤ r0) (Fe : Fld Z h0 r0 "java/util/ArrayList" "elementData" "[Ljava/lang/Object;" (.ref de)) (Fs : Fld Z h0 r0 "java/util/ArrayList" "size" "I" (.int (0 : Int32))) (Fm : Fld Z h0 r0 "java/util/AbstractList" "modCount" "I" (.int mc)) (S_de : Sta Z h0 "java/util/ArrayList" "DEFAULTCAPACITY_EMPTY_ELEMENTDATA" "[Ljava/lang/Object;" (.ref de)) (Vd : Arv Z h0 de kd (.object "java/lang/Object") (0 : Int32) [] .null) :
    MetFree l (⟨"java/util/ArrayList", "grow", "(I)[Ljava/lang/Object;"⟩ : MethodName) (head1 (Jvm.Cond.code (⟨"java/util/ArrayList", "grow", "(I)[Ljava/lang/Object;"⟩ : MethodName) jdk_38_method_6_code 4 (some (.array (.object "java/lang/Object"))) :: ws) ({ frames := 1, cells := 1, slots := 10, locals := 14 } : Room)) (fun a U => a = #[(.ref r0), (.int (1 : Int32))] ∧ Z.Warmed39 U.vm ∧ U.heap = h0) (fun _ _ _ _ _ => True) (fun _ U o U' => ∃ v L, o = .returned v ∧ Q32 Z r0 de kd mc h0 n0 v U'.heap L ∧ FrameEnd U o U' L ({ frames := 1, cells := 1, slots := 10, locals := 14 } : Room).cells ({ frames := 1, cells := 1, slots := 10, locals := 14 } : Room).slots) := by
  refine MetFree.of_bodySF (plainFor_of_name own_pn11) hisR ?_
  intro p e s m args below meth c s₁ Bd hml0 hP hK
  obtain ⟨rfl, hZ, hh⟩ := hP
  have hx := Bd.exec
  have hby := Bd.bytes
  have hml : c.maxLocals = 4 := hml0
  have hown : s.vm.findClass "java/util/ArrayList" = some m.cls := findClass_of_methodNamed Bd.named
  have hnm := (name_of_methodNamed Bd.named Bd.method).1
  have X0 : Stand p l e ({ frames := 1, cells := 1, slots := 10, locals := 14 } : Room) s m #[(.ref r0), (.int (1 : Int32))] below meth c s₁ [] 0 0 := Stand.of_body Bd
  have e0 : s₁.heap = h0 := by rw [← hh, Bd.state]; rfl
  have N0 := Fr.nil n0
  have KR : Keep h0 h0 [r0] := Keep.refl h0 _
  show Good p e below (fun o U' => ∃ v L, o = .returned v ∧ Q32 Z r0 de kd mc h0 n0 v U'.heap L ∧ FrameEnd s o U' L ({ frames := 1, cells := 1, slots := 10, locals := 14 } : Room).cells ({ frames := 1, cells := 1, slots := 10, locals := 14 } : Room).slots) _
  refine Good.back (S' := s₁.setTop (mkF m 0 #[.val (.ref r0), .val (.int (1 : Int32)), .unset, .unset] [])) (fun t k => castTop (own_ef_32 m r0 (1 : Int32)) k) ?_
  show Good p e below _ (s₁.setTop (mkF m 0 #[.val (.ref r0), .val (.int (1 : Int32)), .unset, .unset] []))
  refine Good.back (fun _ k => XS.aloadN X0.here hx rfl (hb hby own_d32_0) rfl rfl k) ?_
  obtain ⟨T1, X1, e1, st1⟩ := getF X0 hx hZ hown (host := "") (Or.inl (hw _ (own_m 102 rfl))) Via.refl e0 Fe (g := (mkF m 1 #[.val (.ref r0), .val (.int (1 : Int32)), .unset, .unset] [(.ref r0)])) rfl rfl (hb hby own_d32_1)
  refine Good.back st1 ?_
  have fc2 := Vd
  obtain ⟨cl2, Ar2, qk2, S2, N2', H2, G2⟩ := fc2
  refine Good.back (X1.arraylength hx (by rw [e1]; exact Ar2.1) (State.isArrayOf_alike hZ.alike Ar2.2.1) (g := (mkF m 4 #[.val (.ref r0), .val (.int (1 : Int32)), .unset, .unset] [(.ref de)])) rfl rfl (hb hby own_d32_4)) ?_
  rw [len_of S2 N2']
  show Good p e below _ (T1.setTop (mkF m 5 #[.val (.ref r0), .val (.int (1 : Int32)), .unset, .unset] [(.int (0 : Int32))]))
  refine Good.back (fun _ k => XS.istoreN X1.here hx rfl (hb hby own_d32_5) rfl (l' := #[.val (.ref r0), .val (.int (1 : Int32)), .val (.int (0 : Int32)), .unset]) rfl k) ?_
  refine Good.back (fun _ k => XS.iloadN X1.here hx rfl (hb hby own_d32_6) rfl k) ?_
  show Good p e below _ (T1.setTop (mkF m 7 #[.val (.ref r0), .val (.int (1 : Int32)), .val (.int (0 : Int32)), .unset] [(.int (0 : Int32))]))
  refine Good.back (fun _ k => XS.ifNo X1.here hx rfl (hb hby own_d32_7) rfl ((if0 _ _).trans (flt (by decide : ¬ ((0 : Int32) < (0 : Int32)))).2.2.1) k) ?_
  show Good p e below _ (T1.setTop (mkF m 10 #[.val (.ref r0), .val (.int (1 : Int32)), .val (.int (0 : Int32)), .unset] []))
  refine Good.back (fun _ k => XS.aloadN X1.here hx rfl (hb hby own_d32_10) rfl rfl k) ?_
  obtain ⟨T3, X3, e3, st3⟩ := getF X1 hx hZ hown (host := "") (Or.inl (hw _ (own_m 102 rfl))) Via.refl e1 Fe (g := (mkF m 11 #[.val (.ref r0), .val (.int (1 : Int32)), .val (.int (0 : Int32)), .unset] [(.ref r0)])) rfl rfl (hb hby own_d32_11)
  refine Good.back st3 ?_
  obtain ⟨T4, X4, e4, st4⟩ := getS2 X3 hx hZ hown (host := "") (Or.inl (hw _ (own_m 101 rfl))) Via.refl e3 S_de (g := (mkF m 14 #[.val (.ref r0), .val (.int (1 : Int32)), .val (.int (0 : Int32)), .unset] [(.ref de)])) rfl (hb hby own_d32_14)
  refine Good.back st4 ?_
  show Good p e below _ (T4.setTop (mkF m 17 #[.val (.ref r0), .val (.int (1 : Int32)), .val (.int (0 : Int32)), .unset] [(.ref de), (.ref de)]))
  refine Good.back (fun _ k => Jvm.RoadKit.acmp (g := (mkF m 17 #[.val (.ref r0), .val (.int (1 : Int32)), .val (.int (0 : Int32)), .unset] [(.ref de), (.ref de)])) X4 hx rfl rfl rfl (pc0 := 17) (pc' := 45) (same := true) rfl (hb hby own_d32_17) rfl (decide_eq_true rfl) (by decide) (by decide) k) ?_
  show Good p e below _ (T4.setTop (mkF m 45 #[.val (.ref r0), .val (.int (1 : Int32)), .val (.int (0 : Int32)), .unset] []))
  refine Good.back (fun _ k => XS.aloadN X4.here hx rfl (hb hby own_d32_45) rfl rfl k) ?_
  refine Good.back (fun _ k => XS.bipush X4.here hx rfl (hb hby own_d32_46) k) ?_
  refine Good.back (fun _ k => XS.iloadN X4.here hx rfl (hb hby own_d32_48) rfl k) ?_
  obtain ⟨_, _, ⟨T5, L5, k5, n5⟩, -, X5, ⟨Lc5, hQ5, l5, y5, z5⟩, st5⟩ := Jvm.LawKit.callS X4 hx (y := (⟨"java/lang/Math", "max", "(II)I"⟩ : MethodName)) hown (mvT hZ (hw _ (own_m 202 rfl))) (mvT hZ (hw _ (own_m 203 rfl))) (mvT hZ (hw _ (own_m 204 rfl))) (mvT hZ (hw _ (own_m 205 rfl))) (by decide) (backOf (W := 1) (rm33 l Z a0 hw []   h0 n0 Z0 ) hZ (hw _ (own_m 205 rfl)) (hw _ (own_m 204 rfl)) (by decide) (by decide)) (g := (mkF m 49 #[.val (.ref r0), .val (.int (1 : Int32)), .val (.int (0 : Int32)), .unset] [(.int (1 : Int32)), (.int (10 : Int32)), (.ref r0)])) rfl (by rw [hml]; rfl) (argsL := [(.int (10 : Int32)), (.int (1 : Int32))]) (rest := [(.ref r0)]) (lenOf own_pd249 rfl) rfl (by show 2 * 0 + _ ≤ _; exact Nat.le_of_eq rfl) (hb hby own_d32_49) (fun _ _ => ⟨rfl, e4, (by decide : 0 + 0 ≤ _), (by decide : 0 + 0 ≤ _)⟩)
  dsimp only [Pt.U, Pt.locs, Pt.cells, Pt.slots] at X5 l5 y5 z5 st5 hQ5
  subst l5 y5 z5
  obtain ⟨rfl, N5q, eh5⟩ := hQ5
  have N5 := Fr.app N0 N5q
  refine Good.back st5 ?_
  obtain ⟨T6, h6, k6, X6, e6, E6, A6, B6, O6, st6⟩ := newRE X5 hx hZ hown (hw _ (own_m 206 rfl)) (hw _ (own_m 207 rfl)) eh5 (g := (mkF m 52 #[.val (.ref r0), .val (.int (1 : Int32)), .val (.int (0 : Int32)), .unset] [(.int (10 : Int32)), (.ref r0)])) rfl (hb hby own_d32_52) rfl (by decide) (cap := 10) (by decide) (by decide) (by decide) (by decide) (ad := "[Ljava/lang/Object;") (by decide +kernel)
  obtain ⟨b6, g6⟩ : ∃ z, z = h0.size := ⟨_, rfl⟩
  rw [← g6] at A6 B6 st6
  refine Good.back st6 ?_
  have g_b6 : n0 ≤ b6 := Nat.le_trans Z0 (Nat.le_of_eq g6.symm)
  have sz_b6 : h0.size ≤ b6 := Nat.le_trans KR.1 (Nat.le_of_eq g6.symm)
  have Z7 : n0 ≤ h6.size := Nat.le_trans Z0 E6.1
  have K8 : Keep h0 h6 [r0] := KR.ext E6
  have f_9 : Exa Z h6 b6 "[Ljava/lang/Object;" := B6
  have f_10 : Arv Z h6 b6 k6 (.object "java/lang/Object") (10 : Int32) [.null, .null, .null, .null, .null, .null, .null, .null, .null, .null] .null := (Arv.new A6 (by decide)).pad (pad_rep [] .null 10)
  show Good p e below _ (T6.setTop (mkF m 55 #[.val (.ref r0), .val (.int (1 : Int32)), .val (.int (0 : Int32)), .unset] [(.ref b6), (.ref r0)]))
  refine Good.back (fun _ k => XS.dupX1 X6.here hx rfl (hb hby own_d32_55) rfl rfl rfl k) ?_
  show Good p e below _ (T6.setTop (mkF m 56 #[.val (.ref r0), .val (.int (1 : Int32)), .val (.int (0 : Int32)), .unset] [(.ref b6), (.ref r0), (.ref b6)]))
  have f_11 : Fld Z h6 r0 "java/util/ArrayList" "elementData" "[Ljava/lang/Object;" (.ref de) := Fld.ext E6 Fe
  have f_12 : Exa Z h6 r0 "java/util/ArrayList" := Exa.ext E6 E0
  obtain ⟨T13, h13, X13, e13, W13, st13⟩ := putF X6 hx hZ hown (host := "") (Or.inl (hw _ (own_m 102 rfl))) Via.refl e6 f_11 f_12 (Or.inl (hw _ (own_m 103 rfl))) (hw _ (own_m 81 rfl)) (ty := (.array (.object "java/lang/Object"))) (by decide) rfl rfl (g := (mkF m 56 #[.val (.ref r0), .val (.int (1 : Int32)), .val (.int (0 : Int32)), .unset] [(.ref b6), (.ref r0), (.ref b6)])) rfl rfl (hb hby own_d32_56)
  refine Good.back st13 ?_
  have f_14 : Fld Z h13 r0 "java/util/ArrayList" "elementData" "[Ljava/lang/Object;" (.ref b6) := Fld.same W13 f_11
  have N13 := Fr.snoc X13 N5 g0
  have Z15 : n0 ≤ h13.size := Nat.le_trans Z7 (Keep.of_wr W13).1
  have K16 : Keep h0 h13 [r0] := K8.wr W13 (Or.inl (List.mem_of_getElem? (i := 0) rfl))
  show Good p e below _ (T13.setTop (mkF m 59 #[.val (.ref r0), .val (.int (1 : Int32)), .val (.int (0 : Int32)), .unset] [(.ref b6)]))
  obtain ⟨fs17, hr17, hrun17, hended17, hW17, hsame17⟩ := X13.leave (v := some (.ref b6)) (fun h => by rw [Bd.returns] at h; cases h)
  refine Good.done (retOut X13 hx Bd.returns rfl (Or.inr (Or.inr (Or.inr (Or.inr ⟨rfl, rfl, rfl⟩)))) (hb hby own_d32_59) hr17) hrun17 hended17 ⟨_, _, rfl, ?_, ⟨_, rfl⟩, hW17, hsame17.mono (by decide) (by decide)⟩
  show Q32 Z r0 de kd mc h0 n0 _ T13.heap _
  rw [e13]
  have f_18 : Exa Z h13 b6 "[Ljava/lang/Object;" := Exa.wr W13 f_9
  have ne_r0_b6_20 : r0 ≠ b6 := Nat.ne_of_lt (Nat.lt_of_lt_of_le Fm.lt (Nat.le_of_eq g6.symm))
  have f_19 : Arv Z h13 b6 k6 (.object "java/lang/Object") (10 : Int32) [.null, .null, .null, .null, .null, .null, .null, .null, .null, .null] .null := Arv.other f_10 W13 (Ne.symm ne_r0_b6_20)
  have f_21 : Fld Z h6 r0 "java/util/ArrayList" "size" "I" (.int (0 : Int32)) := Fld.ext E6 Fs
  have f_22 : Fld Z h13 r0 "java/util/ArrayList" "size" "I" (.int (0 : Int32)) := Fld.other W13 f_21 (Or.inr (slot_ne (Or.inl (hw _ (own_m 136 rfl))) (Or.inl (hw _ (own_m 103 rfl))) (by decide) (t := .int) (t' := (.array (.object "java/lang/Object"))) (by decide) (by decide)))
  have f_23 : Fld Z h6 r0 "java/util/AbstractList" "modCount" "I" (.int mc) := Fld.ext E6 Fm
  have f_24 : Fld Z h13 r0 "java/util/AbstractList" "modCount" "I" (.int mc) := Fld.other W13 f_23 (Or.inr (slot_ne (Or.inl (hw _ (own_m 100 rfl))) (Or.inl (hw _ (own_m 103 rfl))) (by decide) (t := .int) (t' := (.array (.object "java/lang/Object"))) (by decide) (by decide)))
  exact ⟨b6, k6, rfl, N13, K16, sz_b6, f_18, f_19, O6, f_14, f_22, f_24⟩
theorem own_pd268 : parseMethodDescriptor "(I)[Ljava/lang/Object;" = some ⟨[.int], some (.array (.object "java/lang/Object"))⟩ := by decide +kernel
theorem own_d31_0 : decode jdk_38_method_7_code 0 = .ok (.aload_n 0, 1) := by decide +kernel
theorem own_d31_1 : decode jdk_38_method_7_code 1 = .ok (.aload_n 0, 1) := by decide +kernel
theorem own_d31_2 : decode jdk_38_method_7_code 2 = .ok (.getfield 48, 3) := by decide +kernel
theorem own_d31_5 : decode jdk_38_method_7_code 5 = .ok (.iconst 1, 1) := by decide +kernel
theorem own_d31_6 : decode jdk_38_method_7_code 6 = .ok (.iadd, 1) := by decide +kernel
theorem own_d31_7 : decode jdk_38_method_7_code 7 = .ok (.invokevirtual 69, 3) := by decide +kernel
theorem own_d31_10 : decode jdk_38_method_7_code 10 = .ok (.areturn, 1) := by decide +kernel
theorem own_ef_31 (m : MethodId) (x0 : Addr) : entryFrame m #[(.ref x0)] 1 = mkF m 0 #[.val (.ref x0)] [] := by first | (simp [entryFrame, mkF, argsToLocals, Value.category]; done) | rfl
def Q31 (Z : State) (r0 : Addr) (de : Addr) (kd : ClassId) (mc : Int32) (h0 : Heap) (n0 : Nat) (v : Option Value) (h : Heap) (L : List Loc) : Prop := ∃ (ar : Addr) (kk : ClassId), v = some (.ref ar) ∧ Fr n0 L ∧ Keep h0 h [r0] ∧ h0.size ≤ ar ∧ Exa Z h ar "[Ljava/lang/Object;" ∧ Arv Z h ar kk (.object "java/lang/Object") (10 : Int32) [.null, .null, .null, .null, .null, .null, .null, .null, .null, .null] .null ∧ Ovr Z kk "java/lang/Object" ∧ Fld Z h r0 "java/util/ArrayList" "elementData" "[Ljava/lang/Object;" (.ref ar) ∧ Fld Z h r0 "java/util/ArrayList" "size" "I" (.int (0 : Int32)) ∧ Fld Z h r0 "java/util/AbstractList" "modCount" "I" (.int mc)
set_option maxRecDepth 65536 in
set_option maxHeartbeats 40000000 in
theorem rm31 (l : Launch) (Z : State) (a0 : Array Value) (hw : ∀ d ∈ tables_1, d.before a0 Z = true) (ws : List Jvm.Cond) (r0 : Addr) (de : Addr) (kd : ClassId) (mc : Int32) (h0 : Heap) (n0 : Nat) (Z0 : n0 ≤ h0.size) (E0 : Exa Z h0 r0 "java/util/ArrayList") (g0 : n0 ≤ r0) (Fe : Fld Z h0 r0 "java/util/ArrayList" "elementData" "[Ljava/lang/Object;" (.ref de)) (Fs : Fld Z h0 r0 "java/util/ArrayList" "size" "I" (.int (0 : Int32))) (Fm : Fld Z h0 r0 "java/util/AbstractList" "modCount" "I" (.int mc)) (S_de : Sta Z h0 "java/util/ArrayList" "DEFAULTCAPACITY_EMPTY_ELEMENTDATA" "[Ljava/lang/Object;" (.ref de)) (Vd : Arv Z h0 de kd (.object "java/lang/Object") (0 : Int32) [] .null) :
    MetFree l (⟨"java/util/ArrayList", "grow", "()[Ljava/lang/Object;"⟩ : MethodName) (head1 (Jvm.Cond.code (⟨"java/util/ArrayList", "grow", "()[Ljava/lang/Object;"⟩ : MethodName) jdk_38_method_7_code 1 (some (.array (.object "java/lang/Object"))) :: ws) ({ frames := 2, cells := 1, slots := 10, locals := 29 } : Room)) (fun a U => a = #[(.ref r0)] ∧ Z.Warmed39 U.vm ∧ U.heap = h0) (fun _ _ _ _ _ => True) (fun _ U o U' => ∃ v L, o = .returned v ∧ Q31 Z r0 de kd mc h0 n0 v U'.heap L ∧ FrameEnd U o U' L ({ frames := 2, cells := 1, slots := 10, locals := 29 } : Room).cells ({ frames := 2, cells := 1, slots := 10, locals := 29 } : Room).slots) := by
  refine MetFree.of_bodySF (plainFor_of_name own_pn11) hisR ?_
  intro p e s m args below meth c s₁ Bd hml0 hP hK
  obtain ⟨rfl, hZ, hh⟩ := hP
  have hx := Bd.exec
  have hby := Bd.bytes
  have hml : c.maxLocals = 1 := hml0
  have hown : s.vm.findClass "java/util/ArrayList" = some m.cls := findClass_of_methodNamed Bd.named
  have hnm := (name_of_methodNamed Bd.named Bd.method).1
  have X0 : Stand p l e ({ frames := 2, cells := 1, slots := 10, locals := 29 } : Room) s m #[(.ref r0)] below meth c s₁ [] 0 0 := Stand.of_body Bd
  have e0 : s₁.heap = h0 := by rw [← hh, Bd.state]; rfl
  have N0 := Fr.nil n0
  have KR : Keep h0 h0 [r0] := Keep.refl h0 _
  show Good p e below (fun o U' => ∃ v L, o = .returned v ∧ Q31 Z r0 de kd mc h0 n0 v U'.heap L ∧ FrameEnd s o U' L ({ frames := 2, cells := 1, slots := 10, locals := 29 } : Room).cells ({ frames := 2, cells := 1, slots := 10, locals := 29 } : Room).slots) _
  refine Good.back (S' := s₁.setTop (mkF m 0 #[.val (.ref r0)] [])) (fun t k => castTop (own_ef_31 m r0) k) ?_
  show Good p e below _ (s₁.setTop (mkF m 0 #[.val (.ref r0)] []))
  refine Good.back (fun _ k => XS.aloadN X0.here hx rfl (hb hby own_d31_0) rfl rfl k) ?_
  refine Good.back (fun _ k => XS.aloadN X0.here hx rfl (hb hby own_d31_1) rfl rfl k) ?_
  obtain ⟨T1, X1, e1, st1⟩ := getF X0 hx hZ hown (host := "") (Or.inl (hw _ (own_m 135 rfl))) Via.refl e0 Fs (g := (mkF m 2 #[.val (.ref r0)] [(.ref r0), (.ref r0)])) rfl rfl (hb hby own_d31_2)
  refine Good.back st1 ?_
  refine Good.back (fun _ k => XS.iconst X1.here hx rfl (hb hby own_d31_5) k) ?_
  show Good p e below _ (T1.setTop (mkF m 6 #[.val (.ref r0)] [(.int (1 : Int32)), (.int (0 : Int32)), (.ref r0)]))
  refine Good.back (fun _ k => XS.iadd X1.here hx rfl (hb hby own_d31_6) rfl k) ?_
  show Good p e below _ (T1.setTop (mkF m 7 #[.val (.ref r0)] [(.int ((0 : Int32) + (1 : Int32))), (.ref r0)]))
  rw [show (((0 : Int32) + (1 : Int32)) : Int32) = (1 : Int32) from by decide]
  show Good p e below _ (T1.setTop (mkF m 7 #[.val (.ref r0)] [(.int (1 : Int32)), (.ref r0)]))
  obtain ⟨cq2, qk2, qk2'⟩ := E0.cell
  obtain ⟨_, _, ⟨T2, L2, k2, n2⟩, -, X2, ⟨Lc2, hQ2, l2, y2, z2⟩, st2⟩ := X1.privateBack hx (y := (⟨"java/util/ArrayList", "grow", "(I)[Ljava/lang/Object;"⟩ : MethodName)) hown (mvT hZ (hw _ (own_m 197 rfl))) (mvT hZ (hw _ (own_m 198 rfl))) (mvT hZ (hw _ (own_m 200 rfl))) (Cond.privateMethod_at (mvP hZ (hw _ (own_m 199 rfl)) (args := #[]))) (mvT hZ (hw _ (own_m 201 rfl))) (by decide) (backOf (W := 0) (rm32 l Z a0 hw [] r0 de kd mc h0 n0 Z0 E0 g0 Fe Fs Fm S_de Vd) hZ (hw _ (own_m 201 rfl)) (hw _ (own_m 82 rfl)) (by decide) (by decide)) (g := (mkF m 7 #[.val (.ref r0)] [(.int (1 : Int32)), (.ref r0)])) rfl (by rw [hml]; rfl) (Steps.refl _) (a := r0) (by rw [e1]; exact qk2) qk2' (argsL := [(.int (1 : Int32))]) (rest := []) (lenOf own_pd268 rfl) rfl (by show 2 * 0 + _ ≤ _; exact Nat.le_of_eq rfl) (hb hby own_d31_7) (fun _ _ => ⟨rfl, e1, (by decide : 0 + 1 ≤ _), (by decide : 0 + 10 ≤ _)⟩)
  dsimp only [Pt.U, Pt.locs, Pt.cells, Pt.slots] at X2 l2 y2 z2 st2 hQ2
  subst l2 y2 z2
  obtain ⟨ar_2, kk_2, rfl, N2q, Kq2, o2_0, o2_1, o2_2, o2_3, o2_4, o2_5, o2_6⟩ := hQ2
  have N2 := Fr.app N0 N2q
  have Z3 : n0 ≤ T2.heap.size := Nat.le_trans Z0 Kq2.1
  have K4 : Keep h0 T2.heap [r0] := KR.trans Kq2 (allS (Or.inl (List.mem_of_getElem? (i := 0) rfl)) all0)
  have g_ar_2 : n0 ≤ ar_2 := Nat.le_trans Z0 o2_0
  have sz_ar_2 : h0.size ≤ ar_2 := Nat.le_trans KR.1 o2_0
  refine Good.back (fun _ k => st2.trans k) ?_
  show Good p e below _ (T2.setTop (mkF m 10 #[.val (.ref r0)] [(.ref ar_2)]))
  obtain ⟨fs5, hr5, hrun5, hended5, hW5, hsame5⟩ := X2.leave (v := some (.ref ar_2)) (fun h => by rw [Bd.returns] at h; cases h)
  refine Good.done (retOut X2 hx Bd.returns rfl (Or.inr (Or.inr (Or.inr (Or.inr ⟨rfl, rfl, rfl⟩)))) (hb hby own_d31_10) hr5) hrun5 hended5 ⟨_, _, rfl, ?_, ⟨_, rfl⟩, hW5, hsame5.mono (by decide) (by decide)⟩
  show Q31 Z r0 de kd mc h0 n0 _ T2.heap _
  exact ⟨ar_2, kk_2, rfl, N2, K4, sz_ar_2, o2_1, o2_2, o2_3, o2_4, o2_5, o2_6⟩
theorem own_pd276 : parseMethodDescriptor "()[Ljava/lang/Object;" = some ⟨[], some (.array (.object "java/lang/Object"))⟩ := by decide +kernel
theorem own_d30_0 : decode jdk_38_method_24_code 0 = .ok (.iload_n 3, 1) := by decide +kernel
theorem own_d30_1 : decode jdk_38_method_24_code 1 = .ok (.aload_n 2, 1) := by decide +kernel
theorem own_d30_2 : decode jdk_38_method_24_code 2 = .ok (.arraylength, 1) := by decide +kernel
theorem own_d30_3 : decode jdk_38_method_24_code 3 = .ok (.if_icmp .ne 8, 3) := by decide +kernel
theorem own_d30_6 : decode jdk_38_method_24_code 6 = .ok (.aload_n 0, 1) := by decide +kernel
theorem own_d30_7 : decode jdk_38_method_24_code 7 = .ok (.invokevirtual 129, 3) := by decide +kernel
theorem own_d30_10 : decode jdk_38_method_24_code 10 = .ok (.astore_n 2, 1) := by decide +kernel
theorem own_d30_11 : decode jdk_38_method_24_code 11 = .ok (.aload_n 2, 1) := by decide +kernel
theorem own_d30_12 : decode jdk_38_method_24_code 12 = .ok (.iload_n 3, 1) := by decide +kernel
theorem own_d30_13 : decode jdk_38_method_24_code 13 = .ok (.aload_n 1, 1) := by decide +kernel
theorem own_d30_14 : decode jdk_38_method_24_code 14 = .ok (.aastore, 1) := by decide +kernel
theorem own_d30_15 : decode jdk_38_method_24_code 15 = .ok (.aload_n 0, 1) := by decide +kernel
theorem own_d30_16 : decode jdk_38_method_24_code 16 = .ok (.iload_n 3, 1) := by decide +kernel
theorem own_d30_17 : decode jdk_38_method_24_code 17 = .ok (.iconst 1, 1) := by decide +kernel
theorem own_d30_18 : decode jdk_38_method_24_code 18 = .ok (.iadd, 1) := by decide +kernel
theorem own_d30_19 : decode jdk_38_method_24_code 19 = .ok (.putfield 48, 3) := by decide +kernel
theorem own_d30_22 : decode jdk_38_method_24_code 22 = .ok (.return_, 1) := by decide +kernel
theorem own_ef_30_0 (m : MethodId) (x0 : Addr) (x1 : Addr) (x2 : Addr) (x3 : Int32) : entryFrame m #[(.ref x0), (.ref x1), (.ref x2), (.int x3)] 4 = mkF m 0 #[.val (.ref x0), .val (.ref x1), .val (.ref x2), .val (.int x3)] [] := by first | (simp [entryFrame, mkF, argsToLocals, Value.category]; done) | rfl
def Q30_0 (Z : State) (r0 : Addr) (r1 : Addr) (de : Addr) (kd : ClassId) (mc : Int32) (h0 : Heap) (n0 : Nat) (v : Option Value) (h : Heap) (L : List Loc) : Prop := ∃ (ar : Addr) (kk : ClassId), v = none ∧ Fr n0 L ∧ Keep h0 h [r0] ∧ h0.size ≤ ar ∧ Exa Z h ar "[Ljava/lang/Object;" ∧ Arv Z h ar kk (.object "java/lang/Object") (10 : Int32) [(.ref r1), .null, .null, .null, .null, .null, .null, .null, .null, .null] .null ∧ Ovr Z kk "java/lang/Object" ∧ Fld Z h r0 "java/util/ArrayList" "elementData" "[Ljava/lang/Object;" (.ref ar) ∧ Fld Z h r0 "java/util/ArrayList" "size" "I" (.int (1 : Int32)) ∧ Fld Z h r0 "java/util/AbstractList" "modCount" "I" (.int mc)
set_option maxRecDepth 65536 in
set_option maxHeartbeats 40000000 in
theorem rm30_0 (l : Launch) (Z : State) (a0 : Array Value) (hw : ∀ d ∈ tables_1, d.before a0 Z = true) (ws : List Jvm.Cond) (r0 : Addr) (r1 : Addr) (de : Addr) (kd : ClassId) (mc : Int32) (h0 : Heap) (n0 : Nat) (Z0 : n0 ≤ h0.size) (E0 : Exa Z h0 r0 "java/util/ArrayList") (g0 : n0 ≤ r0) (E_r1 : Exa Z h0 r1 "com/example/liken/liken/core/Token") (Fe : Fld Z h0 r0 "java/util/ArrayList" "elementData" "[Ljava/lang/Object;" (.ref de)) (Fs : Fld Z h0 r0 "java/util/ArrayList" "size" "I" (.int (0 : Int32))) (Fm : Fld Z h0 r0 "java/util/AbstractList" "modCount" "I" (.int mc)) (S_de : Sta Z h0 "java/util/ArrayList" "DEFAULTCAPACITY_EMPTY_ELEMENTDATA" "[Ljava/lang/Object;" (.ref de)) (Vd : Arv Z h0 de kd (.object "java/lang/Object") (0 : Int32) [] .null) :
    MetFree l (⟨"java/util/ArrayList", "add", "(Ljava/lang/Object;[Ljava/lang/Object;I)V"⟩ : MethodName) (head1 (Jvm.Cond.code (⟨"java/util/ArrayList", "add", "(Ljava/lang/Object;[Ljava/lang/Object;I)V"⟩ : MethodName) jdk_38_method_24_code 4 none :: ws) ({ frames := 3, cells := 1, slots := 10, locals := 41 } : Room)) (fun a U => a = #[(.ref r0), (.ref r1), (.ref de), (.int (0 : Int32))] ∧ Z.Warmed39 U.vm ∧ U.heap = h0) (fun _ _ _ _ _ => True) (fun _ U o U' => ∃ v L, o = .returned v ∧ Q30_0 Z r0 r1 de kd mc h0 n0 v U'.heap L ∧ FrameEnd U o U' L ({ frames := 3, cells := 1, slots := 10, locals := 41 } : Room).cells ({ frames := 3, cells := 1, slots := 10, locals := 41 } : Room).slots) := by
  refine MetFree.of_bodySF (plainFor_of_name own_pn11) hisR ?_
  intro p e s m args below meth c s₁ Bd hml0 hP hK
  obtain ⟨rfl, hZ, hh⟩ := hP
  have hx := Bd.exec
  have hby := Bd.bytes
  have hml : c.maxLocals = 4 := hml0
  have hown : s.vm.findClass "java/util/ArrayList" = some m.cls := findClass_of_methodNamed Bd.named
  have hnm := (name_of_methodNamed Bd.named Bd.method).1
  have X0 : Stand p l e ({ frames := 3, cells := 1, slots := 10, locals := 41 } : Room) s m #[(.ref r0), (.ref r1), (.ref de), (.int (0 : Int32))] below meth c s₁ [] 0 0 := Stand.of_body Bd
  have e0 : s₁.heap = h0 := by rw [← hh, Bd.state]; rfl
  have N0 := Fr.nil n0
  have KR : Keep h0 h0 [r0] := Keep.refl h0 _
  show Good p e below (fun o U' => ∃ v L, o = .returned v ∧ Q30_0 Z r0 r1 de kd mc h0 n0 v U'.heap L ∧ FrameEnd s o U' L ({ frames := 3, cells := 1, slots := 10, locals := 41 } : Room).cells ({ frames := 3, cells := 1, slots := 10, locals := 41 } : Room).slots) _
  refine Good.back (S' := s₁.setTop (mkF m 0 #[.val (.ref r0), .val (.ref r1), .val (.ref de), .val (.int (0 : Int32))] [])) (fun t k => castTop (own_ef_30_0 m r0 r1 de (0 : Int32)) k) ?_
  show Good p e below _ (s₁.setTop (mkF m 0 #[.val (.ref r0), .val (.ref r1), .val (.ref de), .val (.int (0 : Int32))] []))
  refine Good.back (fun _ k => XS.iloadN X0.here hx rfl (hb hby own_d30_0) rfl k) ?_
  refine Good.back (fun _ k => XS.aloadN X0.here hx rfl (hb hby own_d30_1) rfl rfl k) ?_
  have fc1 := Vd
  obtain ⟨cl1, Ar1, qk1, S1, N1', H1, G1⟩ := fc1
  refine Good.back (X0.arraylength hx (by rw [e0]; exact Ar1.1) (State.isArrayOf_alike hZ.alike Ar1.2.1) (g := (mkF m 2 #[.val (.ref r0), .val (.ref r1), .val (.ref de), .val (.int (0 : Int32))] [(.ref de), (.int (0 : Int32))])) rfl rfl (hb hby own_d30_2)) ?_
  rw [len_of S1 N1']
  show Good p e below _ (s₁.setTop (mkF m 3 #[.val (.ref r0), .val (.ref r1), .val (.ref de), .val (.int (0 : Int32))] [(.int (0 : Int32)), (.int (0 : Int32))]))
  refine Good.back (fun _ k => XS.icmpNo X0.here hx rfl (hb hby own_d30_3) rfl (teq (by decide : ((0 : Int32) = (0 : Int32)))).2 k) ?_
  show Good p e below _ (s₁.setTop (mkF m 6 #[.val (.ref r0), .val (.ref r1), .val (.ref de), .val (.int (0 : Int32))] []))
  refine Good.back (fun _ k => XS.aloadN X0.here hx rfl (hb hby own_d30_6) rfl rfl k) ?_
  obtain ⟨cq2, qk2, qk2'⟩ := E0.cell
  obtain ⟨_, _, ⟨T2, L2, k2, n2⟩, -, X2, ⟨Lc2, hQ2, l2, y2, z2⟩, st2⟩ := X0.privateBack hx (y := (⟨"java/util/ArrayList", "grow", "()[Ljava/lang/Object;"⟩ : MethodName)) hown (mvT hZ (hw _ (own_m 192 rfl))) (mvT hZ (hw _ (own_m 193 rfl))) (mvT hZ (hw _ (own_m 195 rfl))) (Cond.privateMethod_at (mvP hZ (hw _ (own_m 194 rfl)) (args := #[]))) (mvT hZ (hw _ (own_m 196 rfl))) (by decide) (backOf (W := 0) (rm31 l Z a0 hw [] r0 de kd mc h0 n0 Z0 E0 g0 Fe Fs Fm S_de Vd) hZ (hw _ (own_m 196 rfl)) (hw _ (own_m 82 rfl)) (by decide) (by decide)) (g := (mkF m 7 #[.val (.ref r0), .val (.ref r1), .val (.ref de), .val (.int (0 : Int32))] [(.ref r0)])) rfl (by rw [hml]; rfl) (Steps.refl _) (a := r0) (by rw [e0]; exact qk2) qk2' (argsL := []) (rest := []) (lenOf own_pd276 rfl) rfl (by show 2 * 0 + _ ≤ _; exact Nat.le_of_eq rfl) (hb hby own_d30_7) (fun _ _ => ⟨rfl, e0, (by decide : 0 + 1 ≤ _), (by decide : 0 + 10 ≤ _)⟩)
  dsimp only [Pt.U, Pt.locs, Pt.cells, Pt.slots] at X2 l2 y2 z2 st2 hQ2
  subst l2 y2 z2
  obtain ⟨ar_2, kk_2, rfl, N2q, Kq2, o2_0, o2_1, o2_2, o2_3, o2_4, o2_5, o2_6⟩ := hQ2
  have N2 := Fr.app N0 N2q
  have Z3 : n0 ≤ T2.heap.size := Nat.le_trans Z0 Kq2.1
  have K4 : Keep h0 T2.heap [r0] := KR.trans Kq2 (allS (Or.inl (List.mem_of_getElem? (i := 0) rfl)) all0)
  have g_ar_2 : n0 ≤ ar_2 := Nat.le_trans Z0 o2_0
  have sz_ar_2 : h0.size ≤ ar_2 := Nat.le_trans KR.1 o2_0
  refine Good.back (fun _ k => st2.trans k) ?_
  show Good p e below _ (T2.setTop (mkF m 10 #[.val (.ref r0), .val (.ref r1), .val (.ref de), .val (.int (0 : Int32))] [(.ref ar_2)]))
  refine Good.back (fun _ k => XS.astoreN X2.here hx rfl (hb hby own_d30_10) rfl rfl (l' := #[.val (.ref r0), .val (.ref r1), .val (.ref ar_2), .val (.int (0 : Int32))]) rfl k) ?_
  refine Good.back (fun _ k => XS.aloadN X2.here hx rfl (hb hby own_d30_11) rfl rfl k) ?_
  refine Good.back (fun _ k => XS.iloadN X2.here hx rfl (hb hby own_d30_12) rfl k) ?_
  refine Good.back (fun _ k => XS.aloadN X2.here hx rfl (hb hby own_d30_13) rfl rfl k) ?_
  have fc5 := o2_2
  obtain ⟨cl5, Ar5, qk5, S5, N5', H5, G5⟩ := fc5
  have hin5 : ¬ ((0 : Int32) < 0 ∨ cl5.slots.size ≤ ((0 : Int32)).toNatClampNeg) := inb_of S5 ⟨by decide, by decide⟩
  have f_5 : Exa Z T2.heap r1 "com/example/liken/liken/core/Token" := Exa.keep E_r1 Kq2
  obtain ⟨T6, h6, X6, e6, W6, st6⟩ := stR X2 hx hZ rfl Ar5 (j := (0 : Int32)) hin5 rfl (Sto.ofV Ar5 qk5 o2_3 (Ins.of_exa f_5 (hw _ (own_m 208 rfl)))) (g := (mkF m 14 #[.val (.ref r0), .val (.ref r1), .val (.ref ar_2), .val (.int (0 : Int32))] [(.ref r1), (.int (0 : Int32)), (.ref ar_2)])) rfl rfl (hb hby own_d30_14)
  refine Good.back st6 ?_
  have f_7 : Arv Z h6 ar_2 kk_2 (.object "java/lang/Object") (10 : Int32) [(.ref r1), .null, .null, .null, .null, .null, .null, .null, .null, .null] .null := Arv.set Ar5 qk5 S5 N5' H5 G5 rfl W6 0 rfl (Nat.le_of_ble_eq_true rfl)
  have N6 := Fr.snoc X6 N2 g_ar_2
  have Z8 : n0 ≤ h6.size := Nat.le_trans Z3 (Keep.of_wr W6).1
  have K9 : Keep h0 h6 [r0] := K4.wr W6 (Or.inr sz_ar_2)
  refine Good.back (fun _ k => XS.aloadN X6.here hx rfl (hb hby own_d30_15) rfl rfl k) ?_
  refine Good.back (fun _ k => XS.iloadN X6.here hx rfl (hb hby own_d30_16) rfl k) ?_
  refine Good.back (fun _ k => XS.iconst X6.here hx rfl (hb hby own_d30_17) k) ?_
  show Good p e below _ (T6.setTop (mkF m 18 #[.val (.ref r0), .val (.ref r1), .val (.ref ar_2), .val (.int (0 : Int32))] [(.int (1 : Int32)), (.int (0 : Int32)), (.ref r0)]))
  refine Good.back (fun _ k => XS.iadd X6.here hx rfl (hb hby own_d30_18) rfl k) ?_
  show Good p e below _ (T6.setTop (mkF m 19 #[.val (.ref r0), .val (.ref r1), .val (.ref ar_2), .val (.int (0 : Int32))] [(.int ((0 : Int32) + (1 : Int32))), (.ref r0)]))
  rw [show (((0 : Int32) + (1 : Int32)) : Int32) = (1 : Int32) from by decide]
  show Good p e below _ (T6.setTop (mkF m 19 #[.val (.ref r0), .val (.ref r1), .val (.ref ar_2), .val (.int (0 : Int32))] [(.int (1 : Int32)), (.ref r0)]))
  have ne_r0_ar_2_11 : r0 ≠ ar_2 := Nat.ne_of_lt (Nat.lt_of_lt_of_le Fm.lt o2_0)
  have f_10 : Fld Z h6 r0 "java/util/ArrayList" "size" "I" (.int (0 : Int32)) := Fld.other W6 o2_5 (Or.inl ne_r0_ar_2_11)
  have f_12 : Exa Z T2.heap r0 "java/util/ArrayList" := Exa.keep E0 Kq2
  have f_13 : Exa Z h6 r0 "java/util/ArrayList" := Exa.wr W6 f_12
  obtain ⟨T14, h14, X14, e14, W14, st14⟩ := putF X6 hx hZ hown (host := "") (Or.inl (hw _ (own_m 135 rfl))) Via.refl e6 f_10 f_13 (Or.inl (hw _ (own_m 136 rfl))) (hw _ (own_m 81 rfl)) (ty := .int) (by decide) rfl rfl (g := (mkF m 19 #[.val (.ref r0), .val (.ref r1), .val (.ref ar_2), .val (.int (0 : Int32))] [(.int (1 : Int32)), (.ref r0)])) rfl rfl (hb hby own_d30_19)
  refine Good.back st14 ?_
  have f_15 : Fld Z h14 r0 "java/util/ArrayList" "size" "I" (.int (1 : Int32)) := Fld.same W14 f_10
  have N14 := Fr.snoc X14 N6 g0
  have Z16 : n0 ≤ h14.size := Nat.le_trans Z8 (Keep.of_wr W14).1
  have K17 : Keep h0 h14 [r0] := K9.wr W14 (Or.inl (List.mem_of_getElem? (i := 0) rfl))
  show Good p e below _ (T14.setTop (mkF m 22 #[.val (.ref r0), .val (.ref r1), .val (.ref ar_2), .val (.int (0 : Int32))] []))
  obtain ⟨fs18, hr18, hrun18, hended18, hW18, hsame18⟩ := X14.leave (v := none) (fun _ => rfl)
  refine Good.done (X14.returnOut hx Bd.returns (hb hby own_d30_22) hr18) hrun18 hended18 ⟨_, _, rfl, ?_, ⟨_, rfl⟩, hW18, hsame18.mono (by decide) (by decide)⟩
  show Q30_0 Z r0 r1 de kd mc h0 n0 _ T14.heap _
  rw [e14]
  have f_19 : Exa Z h6 ar_2 "[Ljava/lang/Object;" := Exa.wr W6 o2_1
  have f_20 : Exa Z h14 ar_2 "[Ljava/lang/Object;" := Exa.wr W14 f_19
  have f_21 : Arv Z h14 ar_2 kk_2 (.object "java/lang/Object") (10 : Int32) [(.ref r1), .null, .null, .null, .null, .null, .null, .null, .null, .null] .null := Arv.other f_7 W14 (Ne.symm ne_r0_ar_2_11)
  have f_22 : Fld Z h6 r0 "java/util/ArrayList" "elementData" "[Ljava/lang/Object;" (.ref ar_2) := Fld.other W6 o2_4 (Or.inl ne_r0_ar_2_11)
  have f_23 : Fld Z h14 r0 "java/util/ArrayList" "elementData" "[Ljava/lang/Object;" (.ref ar_2) := Fld.other W14 f_22 (Or.inr (slot_ne (Or.inl (hw _ (own_m 103 rfl))) (Or.inl (hw _ (own_m 136 rfl))) (by decide) (t := (.array (.object "java/lang/Object"))) (t' := .int) (by decide) (by decide)))
  have f_24 : Fld Z h6 r0 "java/util/AbstractList" "modCount" "I" (.int mc) := Fld.other W6 o2_6 (Or.inl ne_r0_ar_2_11)
  have f_25 : Fld Z h14 r0 "java/util/AbstractList" "modCount" "I" (.int mc) := Fld.other W14 f_24 (Or.inr (slot_ne (Or.inl (hw _ (own_m 100 rfl))) (Or.inl (hw _ (own_m 136 rfl))) (by decide) (t := .int) (t' := .int) (by decide) (by decide)))
  exact ⟨ar_2, kk_2, rfl, N14, K17, sz_ar_2, f_20, f_21, o2_3, f_23, f_15, f_25⟩
theorem own_pd294 : parseMethodDescriptor "(Ljava/lang/Object;[Ljava/lang/Object;I)V" = some ⟨[(.object "java/lang/Object"), (.array (.object "java/lang/Object")), .int], none⟩ := by decide +kernel
theorem own_d29_0 : decode jdk_38_method_25_code 0 = .ok (.aload_n 0, 1) := by decide +kernel
theorem own_d29_1 : decode jdk_38_method_25_code 1 = .ok (.dup, 1) := by decide +kernel
theorem own_d29_2 : decode jdk_38_method_25_code 2 = .ok (.getfield 63, 3) := by decide +kernel
theorem own_d29_5 : decode jdk_38_method_25_code 5 = .ok (.iconst 1, 1) := by decide +kernel
theorem own_d29_6 : decode jdk_38_method_25_code 6 = .ok (.iadd, 1) := by decide +kernel
theorem own_d29_7 : decode jdk_38_method_25_code 7 = .ok (.putfield 63, 3) := by decide +kernel
theorem own_d29_10 : decode jdk_38_method_25_code 10 = .ok (.aload_n 0, 1) := by decide +kernel
theorem own_d29_11 : decode jdk_38_method_25_code 11 = .ok (.aload_n 1, 1) := by decide +kernel
theorem own_d29_12 : decode jdk_38_method_25_code 12 = .ok (.aload_n 0, 1) := by decide +kernel
theorem own_d29_13 : decode jdk_38_method_25_code 13 = .ok (.getfield 9, 3) := by decide +kernel
theorem own_d29_16 : decode jdk_38_method_25_code 16 = .ok (.aload_n 0, 1) := by decide +kernel
theorem own_d29_17 : decode jdk_38_method_25_code 17 = .ok (.getfield 48, 3) := by decide +kernel
theorem own_d29_20 : decode jdk_38_method_25_code 20 = .ok (.invokevirtual 131, 3) := by decide +kernel
theorem own_d29_23 : decode jdk_38_method_25_code 23 = .ok (.iconst 1, 1) := by decide +kernel
theorem own_d29_24 : decode jdk_38_method_25_code 24 = .ok (.ireturn, 1) := by decide +kernel
theorem own_ef_29_0 (m : MethodId) (x0 : Addr) (x1 : Addr) : entryFrame m #[(.ref x0), (.ref x1)] 2 = mkF m 0 #[.val (.ref x0), .val (.ref x1)] [] := by first | (simp [entryFrame, mkF, argsToLocals, Value.category]; done) | rfl
def Q29_0 (Z : State) (r0 : Addr) (r1 : Addr) (de : Addr) (kd : ClassId) (mc : Int32) (h0 : Heap) (n0 : Nat) (v : Option Value) (h : Heap) (L : List Loc) : Prop := ∃ (ar : Addr) (kk : ClassId), v = some (.int (1 : Int32)) ∧ Fr n0 L ∧ Keep h0 h [r0] ∧ h0.size ≤ ar ∧ Exa Z h ar "[Ljava/lang/Object;" ∧ Arv Z h ar kk (.object "java/lang/Object") (10 : Int32) [(.ref r1), .null, .null, .null, .null, .null, .null, .null, .null, .null] .null ∧ Ovr Z kk "java/lang/Object" ∧ Fld Z h r0 "java/util/ArrayList" "elementData" "[Ljava/lang/Object;" (.ref ar) ∧ Fld Z h r0 "java/util/ArrayList" "size" "I" (.int (1 : Int32)) ∧ Fld Z h r0 "java/util/AbstractList" "modCount" "I" (.int (mc + (1 : Int32)))
set_option maxRecDepth 65536 in
set_option maxHeartbeats 40000000 in
theorem rm29_0 (l : Launch) (Z : State) (a0 : Array Value) (hw : ∀ d ∈ tables_1, d.before a0 Z = true) (ws : List Jvm.Cond) (r0 : Addr) (r1 : Addr) (de : Addr) (kd : ClassId) (mc : Int32) (h0 : Heap) (n0 : Nat) (Z0 : n0 ≤ h0.size) (E0 : Exa Z h0 r0 "java/util/ArrayList") (g0 : n0 ≤ r0) (E_r1 : Exa Z h0 r1 "com/example/liken/liken/core/Token") (Fe : Fld Z h0 r0 "java/util/ArrayList" "elementData" "[Ljava/lang/Object;" (.ref de)) (Fs : Fld Z h0 r0 "java/util/ArrayList" "size" "I" (.int (0 : Int32))) (Fm : Fld Z h0 r0 "java/util/AbstractList" "modCount" "I" (.int mc)) (S_de : Sta Z h0 "java/util/ArrayList" "DEFAULTCAPACITY_EMPTY_ELEMENTDATA" "[Ljava/lang/Object;" (.ref de)) (Vd : Arv Z h0 de kd (.object "java/lang/Object") (0 : Int32) [] .null) :
    MetFree l (⟨"java/util/ArrayList", "add", "(Ljava/lang/Object;)Z"⟩ : MethodName) (head1 (Jvm.Cond.code (⟨"java/util/ArrayList", "add", "(Ljava/lang/Object;)Z"⟩ : MethodName) jdk_38_method_25_code 2 (some .boolean) :: ws) ({ frames := 4, cells := 1, slots := 10, locals := 56 } : Room)) (fun a U => a = #[(.ref r0), (.ref r1)] ∧ Z.Warmed39 U.vm ∧ U.heap = h0) (fun _ _ _ _ _ => True) (fun _ U o U' => ∃ v L, o = .returned v ∧ Q29_0 Z r0 r1 de kd mc h0 n0 v U'.heap L ∧ FrameEnd U o U' L ({ frames := 4, cells := 1, slots := 10, locals := 56 } : Room).cells ({ frames := 4, cells := 1, slots := 10, locals := 56 } : Room).slots) := by
  refine MetFree.of_bodySF (plainFor_of_name own_pn11) hisR ?_
  intro p e s m args below meth c s₁ Bd hml0 hP hK
  obtain ⟨rfl, hZ, hh⟩ := hP
  have hx := Bd.exec
  have hby := Bd.bytes
  have hml : c.maxLocals = 2 := hml0
  have hown : s.vm.findClass "java/util/ArrayList" = some m.cls := findClass_of_methodNamed Bd.named
  have hnm := (name_of_methodNamed Bd.named Bd.method).1
  have X0 : Stand p l e ({ frames := 4, cells := 1, slots := 10, locals := 56 } : Room) s m #[(.ref r0), (.ref r1)] below meth c s₁ [] 0 0 := Stand.of_body Bd
  have e0 : s₁.heap = h0 := by rw [← hh, Bd.state]; rfl
  have N0 := Fr.nil n0
  have KR : Keep h0 h0 [r0] := Keep.refl h0 _
  show Good p e below (fun o U' => ∃ v L, o = .returned v ∧ Q29_0 Z r0 r1 de kd mc h0 n0 v U'.heap L ∧ FrameEnd s o U' L ({ frames := 4, cells := 1, slots := 10, locals := 56 } : Room).cells ({ frames := 4, cells := 1, slots := 10, locals := 56 } : Room).slots) _
  refine Good.back (S' := s₁.setTop (mkF m 0 #[.val (.ref r0), .val (.ref r1)] [])) (fun t k => castTop (own_ef_29_0 m r0 r1) k) ?_
  show Good p e below _ (s₁.setTop (mkF m 0 #[.val (.ref r0), .val (.ref r1)] []))
  refine Good.back (fun _ k => XS.aloadN X0.here hx rfl (hb hby own_d29_0) rfl rfl k) ?_
  refine Good.back (fun _ k => XS.dup X0.here hx rfl (hb hby own_d29_1) rfl rfl k) ?_
  obtain ⟨T1, X1, e1, st1⟩ := getF X0 hx hZ hown (host := "") (Or.inl (hw _ (own_m 185 rfl))) (Via.of (hw _ (own_m 186 rfl))) e0 Fm (g := (mkF m 2 #[.val (.ref r0), .val (.ref r1)] [(.ref r0), (.ref r0)])) rfl rfl (hb hby own_d29_2)
  refine Good.back st1 ?_
  refine Good.back (fun _ k => XS.iconst X1.here hx rfl (hb hby own_d29_5) k) ?_
  show Good p e below _ (T1.setTop (mkF m 6 #[.val (.ref r0), .val (.ref r1)] [(.int (1 : Int32)), (.int mc), (.ref r0)]))
  refine Good.back (fun _ k => XS.iadd X1.here hx rfl (hb hby own_d29_6) rfl k) ?_
  show Good p e below _ (T1.setTop (mkF m 7 #[.val (.ref r0), .val (.ref r1)] [(.int (mc + (1 : Int32))), (.ref r0)]))
  obtain ⟨T2, h2, X2, e2, W2, st2⟩ := putF X1 hx hZ hown (host := "") (Or.inl (hw _ (own_m 185 rfl))) (Via.of (hw _ (own_m 186 rfl))) e1 Fm E0 (Or.inl (hw _ (own_m 100 rfl))) (hw _ (own_m 81 rfl)) (ty := .int) (by decide) rfl rfl (g := (mkF m 7 #[.val (.ref r0), .val (.ref r1)] [(.int (mc + (1 : Int32))), (.ref r0)])) rfl rfl (hb hby own_d29_7)
  refine Good.back st2 ?_
  have f_3 : Fld Z h2 r0 "java/util/AbstractList" "modCount" "I" (.int (mc + (1 : Int32))) := Fld.same W2 Fm
  have N2 := Fr.snoc X2 N0 g0
  have Z4 : n0 ≤ h2.size := Nat.le_trans Z0 (Keep.of_wr W2).1
  have K5 : Keep h0 h2 [r0] := KR.wr W2 (Or.inl (List.mem_of_getElem? (i := 0) rfl))
  refine Good.back (fun _ k => XS.aloadN X2.here hx rfl (hb hby own_d29_10) rfl rfl k) ?_
  refine Good.back (fun _ k => XS.aloadN X2.here hx rfl (hb hby own_d29_11) rfl rfl k) ?_
  refine Good.back (fun _ k => XS.aloadN X2.here hx rfl (hb hby own_d29_12) rfl rfl k) ?_
  have f_6 : Fld Z h2 r0 "java/util/ArrayList" "elementData" "[Ljava/lang/Object;" (.ref de) := Fld.other W2 Fe (Or.inr (slot_ne (Or.inl (hw _ (own_m 103 rfl))) (Or.inl (hw _ (own_m 100 rfl))) (by decide) (t := (.array (.object "java/lang/Object"))) (t' := .int) (by decide) (by decide)))
  obtain ⟨T7, X7, e7, st7⟩ := getF X2 hx hZ hown (host := "") (Or.inl (hw _ (own_m 102 rfl))) Via.refl e2 f_6 (g := (mkF m 13 #[.val (.ref r0), .val (.ref r1)] [(.ref r0), (.ref r1), (.ref r0)])) rfl rfl (hb hby own_d29_13)
  refine Good.back st7 ?_
  refine Good.back (fun _ k => XS.aloadN X7.here hx rfl (hb hby own_d29_16) rfl rfl k) ?_
  have f_8 : Fld Z h2 r0 "java/util/ArrayList" "size" "I" (.int (0 : Int32)) := Fld.other W2 Fs (Or.inr (slot_ne (Or.inl (hw _ (own_m 136 rfl))) (Or.inl (hw _ (own_m 100 rfl))) (by decide) (t := .int) (t' := .int) (by decide) (by decide)))
  obtain ⟨T9, X9, e9, st9⟩ := getF X7 hx hZ hown (host := "") (Or.inl (hw _ (own_m 135 rfl))) Via.refl e7 f_8 (g := (mkF m 17 #[.val (.ref r0), .val (.ref r1)] [(.ref r0), (.ref de), (.ref r1), (.ref r0)])) rfl rfl (hb hby own_d29_17)
  refine Good.back st9 ?_
  have f_11 : Exa Z h2 r0 "java/util/ArrayList" := Exa.wr W2 E0
  have f_12 : Exa Z h2 r1 "com/example/liken/liken/core/Token" := Exa.wr W2 E_r1
  have f_13 : Sta Z h2 "java/util/ArrayList" "DEFAULTCAPACITY_EMPTY_ELEMENTDATA" "[Ljava/lang/Object;" (.ref de) := Sta.wr W2 S_de
  have ne_r0_de_15 : r0 ≠ de := Exa.neArv E0 Vd (hw _ (own_m 81 rfl))
  have f_14 : Arv Z h2 de kd (.object "java/lang/Object") (0 : Int32) [] .null := Arv.other Vd W2 (Ne.symm ne_r0_de_15)
  obtain ⟨cq10, qk10, qk10'⟩ := f_11.cell
  obtain ⟨_, _, ⟨T10, L10, k10, n10⟩, -, X10, ⟨Lc10, hQ10, l10, y10, z10⟩, st10⟩ := X9.privateBack hx (y := (⟨"java/util/ArrayList", "add", "(Ljava/lang/Object;[Ljava/lang/Object;I)V"⟩ : MethodName)) hown (mvT hZ (hw _ (own_m 187 rfl))) (mvT hZ (hw _ (own_m 188 rfl))) (mvT hZ (hw _ (own_m 190 rfl))) (Cond.privateMethod_at (mvP hZ (hw _ (own_m 189 rfl)) (args := #[]))) (mvT hZ (hw _ (own_m 191 rfl))) (by decide) (backOf (W := 0) (rm30_0 l Z a0 hw [] r0 r1 de kd (mc + (1 : Int32)) h2 n0 Z4 f_11 g0 f_12 f_6 f_8 f_3 f_13 f_14) hZ (hw _ (own_m 191 rfl)) (hw _ (own_m 82 rfl)) (by decide) (by decide)) (g := (mkF m 20 #[.val (.ref r0), .val (.ref r1)] [(.int (0 : Int32)), (.ref de), (.ref r1), (.ref r0)])) rfl (by rw [hml]; rfl) (Steps.refl _) (a := r0) (by rw [e9]; exact qk10) qk10' (argsL := [(.ref r1), (.ref de), (.int (0 : Int32))]) (rest := []) (lenOf own_pd294 rfl) rfl (by show 2 * 0 + _ ≤ _; exact Nat.le_of_eq rfl) (hb hby own_d29_20) (fun _ _ => ⟨rfl, e9, (by decide : 0 + 1 ≤ _), (by decide : 0 + 10 ≤ _)⟩)
  dsimp only [Pt.U, Pt.locs, Pt.cells, Pt.slots] at X10 l10 y10 z10 st10 hQ10
  subst l10 y10 z10
  obtain ⟨ar_10, kk_10, rfl, N10q, Kq10, o10_0, o10_1, o10_2, o10_3, o10_4, o10_5, o10_6⟩ := hQ10
  have N10 := Fr.app N2 N10q
  have Z16 : n0 ≤ T10.heap.size := Nat.le_trans Z4 Kq10.1
  have K17 : Keep h0 T10.heap [r0] := K5.trans Kq10 (allS (Or.inl (List.mem_of_getElem? (i := 0) rfl)) all0)
  have g_ar_10 : n0 ≤ ar_10 := Nat.le_trans Z4 o10_0
  have sz_ar_10 : h0.size ≤ ar_10 := Nat.le_trans K5.1 o10_0
  refine Good.back (fun _ k => st10.trans k) ?_
  refine Good.back (fun _ k => XS.iconst X10.here hx rfl (hb hby own_d29_23) k) ?_
  show Good p e below _ (T10.setTop (mkF m 24 #[.val (.ref r0), .val (.ref r1)] [(.int (1 : Int32))]))
  obtain ⟨fs18, hr18, hrun18, hended18, hW18, hsame18⟩ := X10.leave (v := some (.int (1 : Int32))) (fun h => by rw [Bd.returns] at h; cases h)
  refine Good.done (retN X10 hx (t := .boolean) Bd.returns (by simp) (hb hby own_d29_24) hr18) hrun18 hended18 ⟨_, _, rfl, ?_, ⟨_, rfl⟩, hW18, hsame18.mono (by decide) (by decide)⟩
  show Q29_0 Z r0 r1 de kd mc h0 n0 _ T10.heap _
  exact ⟨ar_10, kk_10, rfl, N10, K17, sz_ar_10, o10_1, o10_2, o10_3, o10_4, o10_5, o10_6⟩
theorem own_ef_30_1 (m : MethodId) (x0 : Addr) (x1 : Addr) (x2 : Addr) (x3 : Int32) : entryFrame m #[(.ref x0), (.ref x1), (.ref x2), (.int x3)] 4 = mkF m 0 #[.val (.ref x0), .val (.ref x1), .val (.ref x2), .val (.int x3)] [] := by first | (simp [entryFrame, mkF, argsToLocals, Value.category]; done) | rfl
def Q30_1 (Z : State) (r0 : Addr) (r1 : Addr) (ar : Addr) (kk : ClassId) (mc : Int32) (x0 : Addr) (h0 : Heap) (n0 : Nat) (v : Option Value) (h : Heap) (L : List Loc) : Prop := v = none ∧ Fr n0 L ∧ Keep h0 h [r0, ar] ∧ Arv Z h ar kk (.object "java/lang/Object") (10 : Int32) [(.ref x0), (.ref r1), .null, .null, .null, .null, .null, .null, .null, .null] .null ∧ Fld Z h r0 "java/util/ArrayList" "elementData" "[Ljava/lang/Object;" (.ref ar) ∧ Fld Z h r0 "java/util/ArrayList" "size" "I" (.int (2 : Int32)) ∧ Fld Z h r0 "java/util/AbstractList" "modCount" "I" (.int mc)
set_option maxRecDepth 65536 in
set_option maxHeartbeats 40000000 in
theorem rm30_1 (l : Launch) (Z : State) (a0 : Array Value) (hw : ∀ d ∈ tables_1, d.before a0 Z = true) (ws : List Jvm.Cond) (r0 : Addr) (r1 : Addr) (ar : Addr) (kk : ClassId) (mc : Int32) (x0 : Addr) (h0 : Heap) (n0 : Nat) (Z0 : n0 ≤ h0.size) (E0 : Exa Z h0 r0 "java/util/ArrayList") (g0 : n0 ≤ r0) (E_r1 : Exa Z h0 r1 "com/example/liken/liken/core/Token") (Fe : Fld Z h0 r0 "java/util/ArrayList" "elementData" "[Ljava/lang/Object;" (.ref ar)) (Va : Arv Z h0 ar kk (.object "java/lang/Object") (10 : Int32) [(.ref x0), .null, .null, .null, .null, .null, .null, .null, .null, .null] .null) (hov : Ovr Z kk "java/lang/Object") (ga : n0 ≤ ar) (nea : r0 ≠ ar) (Fs : Fld Z h0 r0 "java/util/ArrayList" "size" "I" (.int (1 : Int32))) (Fm : Fld Z h0 r0 "java/util/AbstractList" "modCount" "I" (.int mc)) :
    MetFree l (⟨"java/util/ArrayList", "add", "(Ljava/lang/Object;[Ljava/lang/Object;I)V"⟩ : MethodName) (head1 (Jvm.Cond.code (⟨"java/util/ArrayList", "add", "(Ljava/lang/Object;[Ljava/lang/Object;I)V"⟩ : MethodName) jdk_38_method_24_code 4 none :: ws) ({ frames := 0, cells := 0, slots := 0, locals := 0 } : Room)) (fun a U => a = #[(.ref r0), (.ref r1), (.ref ar), (.int (1 : Int32))] ∧ Z.Warmed39 U.vm ∧ U.heap = h0) (fun _ _ _ _ _ => True) (fun _ U o U' => ∃ v L, o = .returned v ∧ Q30_1 Z r0 r1 ar kk mc x0 h0 n0 v U'.heap L ∧ FrameEnd U o U' L ({ frames := 0, cells := 0, slots := 0, locals := 0 } : Room).cells ({ frames := 0, cells := 0, slots := 0, locals := 0 } : Room).slots) := by
  refine MetFree.of_bodySF (plainFor_of_name own_pn11) hisR ?_
  intro p e s m args below meth c s₁ Bd hml0 hP hK
  obtain ⟨rfl, hZ, hh⟩ := hP
  have hx := Bd.exec
  have hby := Bd.bytes
  have hml : c.maxLocals = 4 := hml0
  have hown : s.vm.findClass "java/util/ArrayList" = some m.cls := findClass_of_methodNamed Bd.named
  have hnm := (name_of_methodNamed Bd.named Bd.method).1
  have X0 : Stand p l e ({ frames := 0, cells := 0, slots := 0, locals := 0 } : Room) s m #[(.ref r0), (.ref r1), (.ref ar), (.int (1 : Int32))] below meth c s₁ [] 0 0 := Stand.of_body Bd
  have e0 : s₁.heap = h0 := by rw [← hh, Bd.state]; rfl
  have N0 := Fr.nil n0
  have KR : Keep h0 h0 [r0, ar] := Keep.refl h0 _
  show Good p e below (fun o U' => ∃ v L, o = .returned v ∧ Q30_1 Z r0 r1 ar kk mc x0 h0 n0 v U'.heap L ∧ FrameEnd s o U' L ({ frames := 0, cells := 0, slots := 0, locals := 0 } : Room).cells ({ frames := 0, cells := 0, slots := 0, locals := 0 } : Room).slots) _
  refine Good.back (S' := s₁.setTop (mkF m 0 #[.val (.ref r0), .val (.ref r1), .val (.ref ar), .val (.int (1 : Int32))] [])) (fun t k => castTop (own_ef_30_1 m r0 r1 ar (1 : Int32)) k) ?_
  show Good p e below _ (s₁.setTop (mkF m 0 #[.val (.ref r0), .val (.ref r1), .val (.ref ar), .val (.int (1 : Int32))] []))
  refine Good.back (fun _ k => XS.iloadN X0.here hx rfl (hb hby own_d30_0) rfl k) ?_
  refine Good.back (fun _ k => XS.aloadN X0.here hx rfl (hb hby own_d30_1) rfl rfl k) ?_
  have fc1 := Va
  obtain ⟨cl1, Ar1, qk1, S1, N1', H1, G1⟩ := fc1
  refine Good.back (X0.arraylength hx (by rw [e0]; exact Ar1.1) (State.isArrayOf_alike hZ.alike Ar1.2.1) (g := (mkF m 2 #[.val (.ref r0), .val (.ref r1), .val (.ref ar), .val (.int (1 : Int32))] [(.ref ar), (.int (1 : Int32))])) rfl rfl (hb hby own_d30_2)) ?_
  rw [len_of S1 N1']
  show Good p e below _ (s₁.setTop (mkF m 3 #[.val (.ref r0), .val (.ref r1), .val (.ref ar), .val (.int (1 : Int32))] [(.int (10 : Int32)), (.int (1 : Int32))]))
  refine Good.back (fun _ k => XS.icmpYes X0.here hx rfl (pc0 := 3) (pc' := 11) rfl (hb hby own_d30_3) rfl (feq (by decide : ¬ ((1 : Int32) = (10 : Int32)))).2 (by decide) (by decide) k) ?_
  show Good p e below _ (s₁.setTop (mkF m 11 #[.val (.ref r0), .val (.ref r1), .val (.ref ar), .val (.int (1 : Int32))] []))
  refine Good.back (fun _ k => XS.aloadN X0.here hx rfl (hb hby own_d30_11) rfl rfl k) ?_
  refine Good.back (fun _ k => XS.iloadN X0.here hx rfl (hb hby own_d30_12) rfl k) ?_
  refine Good.back (fun _ k => XS.aloadN X0.here hx rfl (hb hby own_d30_13) rfl rfl k) ?_
  have fc2 := Va
  obtain ⟨cl2, Ar2, qk2, S2, N2', H2, G2⟩ := fc2
  have hin2 : ¬ ((1 : Int32) < 0 ∨ cl2.slots.size ≤ ((1 : Int32)).toNatClampNeg) := inb_of S2 ⟨by decide, by decide⟩
  obtain ⟨T2, h2, X2, e2, W2, st2⟩ := stR X0 hx hZ e0 Ar2 (j := (1 : Int32)) hin2 rfl (Sto.ofV Ar2 qk2 hov (Ins.of_exa E_r1 (hw _ (own_m 208 rfl)))) (g := (mkF m 14 #[.val (.ref r0), .val (.ref r1), .val (.ref ar), .val (.int (1 : Int32))] [(.ref r1), (.int (1 : Int32)), (.ref ar)])) rfl rfl (hb hby own_d30_14)
  refine Good.back st2 ?_
  have f_3 : Arv Z h2 ar kk (.object "java/lang/Object") (10 : Int32) [(.ref x0), (.ref r1), .null, .null, .null, .null, .null, .null, .null, .null] .null := Arv.set Ar2 qk2 S2 N2' H2 G2 rfl W2 1 rfl (Nat.le_of_ble_eq_true rfl)
  have N2 := Fr.snoc X2 N0 ga
  have Z4 : n0 ≤ h2.size := Nat.le_trans Z0 (Keep.of_wr W2).1
  have K5 : Keep h0 h2 [r0, ar] := KR.wr W2 (Or.inl (List.mem_of_getElem? (i := 1) rfl))
  refine Good.back (fun _ k => XS.aloadN X2.here hx rfl (hb hby own_d30_15) rfl rfl k) ?_
  refine Good.back (fun _ k => XS.iloadN X2.here hx rfl (hb hby own_d30_16) rfl k) ?_
  refine Good.back (fun _ k => XS.iconst X2.here hx rfl (hb hby own_d30_17) k) ?_
  show Good p e below _ (T2.setTop (mkF m 18 #[.val (.ref r0), .val (.ref r1), .val (.ref ar), .val (.int (1 : Int32))] [(.int (1 : Int32)), (.int (1 : Int32)), (.ref r0)]))
  refine Good.back (fun _ k => XS.iadd X2.here hx rfl (hb hby own_d30_18) rfl k) ?_
  show Good p e below _ (T2.setTop (mkF m 19 #[.val (.ref r0), .val (.ref r1), .val (.ref ar), .val (.int (1 : Int32))] [(.int ((1 : Int32) + (1 : Int32))), (.ref r0)]))
  rw [show (((1 : Int32) + (1 : Int32)) : Int32) = (2 : Int32) from by decide]
  show Good p e below _ (T2.setTop (mkF m 19 #[.val (.ref r0), .val (.ref r1), .val (.ref ar), .val (.int (1 : Int32))] [(.int (2 : Int32)), (.ref r0)]))
  have f_6 : Fld Z h2 r0 "java/util/ArrayList" "size" "I" (.int (1 : Int32)) := Fld.other W2 Fs (Or.inl nea)
  have f_7 : Exa Z h2 r0 "java/util/ArrayList" := Exa.wr W2 E0
  obtain ⟨T8, h8, X8, e8, W8, st8⟩ := putF X2 hx hZ hown (host := "") (Or.inl (hw _ (own_m 135 rfl))) Via.refl e2 f_6 f_7 (Or.inl (hw _ (own_m 136 rfl))) (hw _ (own_m 81 rfl)) (ty := .int) (by decide) rfl rfl (g := (mkF m 19 #[.val (.ref r0), .val (.ref r1), .val (.ref ar), .val (.int (1 : Int32))] [(.int (2 : Int32)), (.ref r0)])) rfl rfl (hb hby own_d30_19)
  refine Good.back st8 ?_
  have f_9 : Fld Z h8 r0 "java/util/ArrayList" "size" "I" (.int (2 : Int32)) := Fld.same W8 f_6
  have N8 := Fr.snoc X8 N2 g0
  have Z10 : n0 ≤ h8.size := Nat.le_trans Z4 (Keep.of_wr W8).1
  have K11 : Keep h0 h8 [r0, ar] := K5.wr W8 (Or.inl (List.mem_of_getElem? (i := 0) rfl))
  show Good p e below _ (T8.setTop (mkF m 22 #[.val (.ref r0), .val (.ref r1), .val (.ref ar), .val (.int (1 : Int32))] []))
  obtain ⟨fs12, hr12, hrun12, hended12, hW12, hsame12⟩ := X8.leave (v := none) (fun _ => rfl)
  refine Good.done (X8.returnOut hx Bd.returns (hb hby own_d30_22) hr12) hrun12 hended12 ⟨_, _, rfl, ?_, ⟨_, rfl⟩, hW12, hsame12.mono (by decide) (by decide)⟩
  show Q30_1 Z r0 r1 ar kk mc x0 h0 n0 _ T8.heap _
  rw [e8]
  have f_13 : Arv Z h8 ar kk (.object "java/lang/Object") (10 : Int32) [(.ref x0), (.ref r1), .null, .null, .null, .null, .null, .null, .null, .null] .null := Arv.other f_3 W8 (Ne.symm nea)
  have f_14 : Fld Z h2 r0 "java/util/ArrayList" "elementData" "[Ljava/lang/Object;" (.ref ar) := Fld.other W2 Fe (Or.inl nea)
  have f_15 : Fld Z h8 r0 "java/util/ArrayList" "elementData" "[Ljava/lang/Object;" (.ref ar) := Fld.other W8 f_14 (Or.inr (slot_ne (Or.inl (hw _ (own_m 103 rfl))) (Or.inl (hw _ (own_m 136 rfl))) (by decide) (t := (.array (.object "java/lang/Object"))) (t' := .int) (by decide) (by decide)))
  have f_16 : Fld Z h2 r0 "java/util/AbstractList" "modCount" "I" (.int mc) := Fld.other W2 Fm (Or.inl nea)
  have f_17 : Fld Z h8 r0 "java/util/AbstractList" "modCount" "I" (.int mc) := Fld.other W8 f_16 (Or.inr (slot_ne (Or.inl (hw _ (own_m 100 rfl))) (Or.inl (hw _ (own_m 136 rfl))) (by decide) (t := .int) (t' := .int) (by decide) (by decide)))
  exact ⟨rfl, N8, K11, f_13, f_15, f_9, f_17⟩
theorem own_ef_29_1 (m : MethodId) (x0 : Addr) (x1 : Addr) : entryFrame m #[(.ref x0), (.ref x1)] 2 = mkF m 0 #[.val (.ref x0), .val (.ref x1)] [] := by first | (simp [entryFrame, mkF, argsToLocals, Value.category]; done) | rfl
def Q29_1 (Z : State) (r0 : Addr) (r1 : Addr) (ar : Addr) (kk : ClassId) (mc : Int32) (x0 : Addr) (h0 : Heap) (n0 : Nat) (v : Option Value) (h : Heap) (L : List Loc) : Prop := v = some (.int (1 : Int32)) ∧ Fr n0 L ∧ Keep h0 h [r0, ar] ∧ Arv Z h ar kk (.object "java/lang/Object") (10 : Int32) [(.ref x0), (.ref r1), .null, .null, .null, .null, .null, .null, .null, .null] .null ∧ Fld Z h r0 "java/util/ArrayList" "elementData" "[Ljava/lang/Object;" (.ref ar) ∧ Fld Z h r0 "java/util/ArrayList" "size" "I" (.int (2 : Int32)) ∧ Fld Z h r0 "java/util/AbstractList" "modCount" "I" (.int (mc + (1 : Int32)))
set_option maxRecDepth 65536 in
set_option maxHeartbeats 40000000 in
theorem rm29_1 (l : Launch) (Z : State) (a0 : Array Value) (hw : ∀ d ∈ tables_1, d.before a0 Z = true) (ws : List Jvm.Cond) (r0 : Addr) (r1 : Addr) (ar : Addr) (kk : ClassId) (mc : Int32) (x0 : Addr) (h0 : Heap) (n0 : Nat) (Z0 : n0 ≤ h0.size) (E0 : Exa Z h0 r0 "java/util/ArrayList") (g0 : n0 ≤ r0) (E_r1 : Exa Z h0 r1 "com/example/liken/liken/core/Token") (Fe : Fld Z h0 r0 "java/util/ArrayList" "elementData" "[Ljava/lang/Object;" (.ref ar)) (Va : Arv Z h0 ar kk (.object "java/lang/Object") (10 : Int32) [(.ref x0), .null, .null, .null, .null, .null, .null, .null, .null, .null] .null) (hov : Ovr Z kk "java/lang/Object") (ga : n0 ≤ ar) (nea : r0 ≠ ar) (Fs : Fld Z h0 r0 "java/util/ArrayList" "size" "I" (.int (1 : Int32))) (Fm : Fld Z h0 r0 "java/util/AbstractList" "modCount" "I" (.int mc)) :
    MetFree l (⟨"java/util/ArrayList", "add", "(Ljava/lang/Object;)Z"⟩ : MethodName) (head1 (Jvm.Cond.code (⟨"java/util/ArrayList", "add", "(Ljava/lang/Object;)Z"⟩ : MethodName) jdk_38_method_25_code 2 (some .boolean) :: ws) ({ frames := 1, cells := 0, slots := 0, locals := 15 } : Room)) (fun a U => a = #[(.ref r0), (.ref r1)] ∧ Z.Warmed39 U.vm ∧ U.heap = h0) (fun _ _ _ _ _ => True) (fun _ U o U' => ∃ v L, o = .returned v ∧ Q29_1 Z r0 r1 ar kk mc x0 h0 n0 v U'.heap L ∧ FrameEnd U o U' L ({ frames := 1, cells := 0, slots := 0, locals := 15 } : Room).cells ({ frames := 1, cells := 0, slots := 0, locals := 15 } : Room).slots) := by
  refine MetFree.of_bodySF (plainFor_of_name own_pn11) hisR ?_
  intro p e s m args below meth c s₁ Bd hml0 hP hK
  obtain ⟨rfl, hZ, hh⟩ := hP
  have hx := Bd.exec
  have hby := Bd.bytes
  have hml : c.maxLocals = 2 := hml0
  have hown : s.vm.findClass "java/util/ArrayList" = some m.cls := findClass_of_methodNamed Bd.named
  have hnm := (name_of_methodNamed Bd.named Bd.method).1
  have X0 : Stand p l e ({ frames := 1, cells := 0, slots := 0, locals := 15 } : Room) s m #[(.ref r0), (.ref r1)] below meth c s₁ [] 0 0 := Stand.of_body Bd
  have e0 : s₁.heap = h0 := by rw [← hh, Bd.state]; rfl
  have N0 := Fr.nil n0
  have KR : Keep h0 h0 [r0, ar] := Keep.refl h0 _
  show Good p e below (fun o U' => ∃ v L, o = .returned v ∧ Q29_1 Z r0 r1 ar kk mc x0 h0 n0 v U'.heap L ∧ FrameEnd s o U' L ({ frames := 1, cells := 0, slots := 0, locals := 15 } : Room).cells ({ frames := 1, cells := 0, slots := 0, locals := 15 } : Room).slots) _
  refine Good.back (S' := s₁.setTop (mkF m 0 #[.val (.ref r0), .val (.ref r1)] [])) (fun t k => castTop (own_ef_29_1 m r0 r1) k) ?_
  show Good p e below _ (s₁.setTop (mkF m 0 #[.val (.ref r0), .val (.ref r1)] []))
  refine Good.back (fun _ k => XS.aloadN X0.here hx rfl (hb hby own_d29_0) rfl rfl k) ?_
  refine Good.back (fun _ k => XS.dup X0.here hx rfl (hb hby own_d29_1) rfl rfl k) ?_
  obtain ⟨T1, X1, e1, st1⟩ := getF X0 hx hZ hown (host := "") (Or.inl (hw _ (own_m 185 rfl))) (Via.of (hw _ (own_m 186 rfl))) e0 Fm (g := (mkF m 2 #[.val (.ref r0), .val (.ref r1)] [(.ref r0), (.ref r0)])) rfl rfl (hb hby own_d29_2)
  refine Good.back st1 ?_
  refine Good.back (fun _ k => XS.iconst X1.here hx rfl (hb hby own_d29_5) k) ?_
  show Good p e below _ (T1.setTop (mkF m 6 #[.val (.ref r0), .val (.ref r1)] [(.int (1 : Int32)), (.int mc), (.ref r0)]))
  refine Good.back (fun _ k => XS.iadd X1.here hx rfl (hb hby own_d29_6) rfl k) ?_
  show Good p e below _ (T1.setTop (mkF m 7 #[.val (.ref r0), .val (.ref r1)] [(.int (mc + (1 : Int32))), (.ref r0)]))
  obtain ⟨T2, h2, X2, e2, W2, st2⟩ := putF X1 hx hZ hown (host := "") (Or.inl (hw _ (own_m 185 rfl))) (Via.of (hw _ (own_m 186 rfl))) e1 Fm E0 (Or.inl (hw _ (own_m 100 rfl))) (hw _ (own_m 81 rfl)) (ty := .int) (by decide) rfl rfl (g := (mkF m 7 #[.val (.ref r0), .val (.ref r1)] [(.int (mc + (1 : Int32))), (.ref r0)])) rfl rfl (hb hby own_d29_7)
  refine Good.back st2 ?_
  have f_3 : Fld Z h2 r0 "java/util/AbstractList" "modCount" "I" (.int (mc + (1 : Int32))) := Fld.same W2 Fm
  have N2 := Fr.snoc X2 N0 g0
  have Z4 : n0 ≤ h2.size := Nat.le_trans Z0 (Keep.of_wr W2).1
  have K5 : Keep h0 h2 [r0, ar] := KR.wr W2 (Or.inl (List.mem_of_getElem? (i := 0) rfl))
  refine Good.back (fun _ k => XS.aloadN X2.here hx rfl (hb hby own_d29_10) rfl rfl k) ?_
  refine Good.back (fun _ k => XS.aloadN X2.here hx rfl (hb hby own_d29_11) rfl rfl k) ?_
  refine Good.back (fun _ k => XS.aloadN X2.here hx rfl (hb hby own_d29_12) rfl rfl k) ?_
  have f_6 : Fld Z h2 r0 "java/util/ArrayList" "elementData" "[Ljava/lang/Object;" (.ref ar) := Fld.other W2 Fe (Or.inr (slot_ne (Or.inl (hw _ (own_m 103 rfl))) (Or.inl (hw _ (own_m 100 rfl))) (by decide) (t := (.array (.object "java/lang/Object"))) (t' := .int) (by decide) (by decide)))
  obtain ⟨T7, X7, e7, st7⟩ := getF X2 hx hZ hown (host := "") (Or.inl (hw _ (own_m 102 rfl))) Via.refl e2 f_6 (g := (mkF m 13 #[.val (.ref r0), .val (.ref r1)] [(.ref r0), (.ref r1), (.ref r0)])) rfl rfl (hb hby own_d29_13)
  refine Good.back st7 ?_
  refine Good.back (fun _ k => XS.aloadN X7.here hx rfl (hb hby own_d29_16) rfl rfl k) ?_
  have f_8 : Fld Z h2 r0 "java/util/ArrayList" "size" "I" (.int (1 : Int32)) := Fld.other W2 Fs (Or.inr (slot_ne (Or.inl (hw _ (own_m 136 rfl))) (Or.inl (hw _ (own_m 100 rfl))) (by decide) (t := .int) (t' := .int) (by decide) (by decide)))
  obtain ⟨T9, X9, e9, st9⟩ := getF X7 hx hZ hown (host := "") (Or.inl (hw _ (own_m 135 rfl))) Via.refl e7 f_8 (g := (mkF m 17 #[.val (.ref r0), .val (.ref r1)] [(.ref r0), (.ref ar), (.ref r1), (.ref r0)])) rfl rfl (hb hby own_d29_17)
  refine Good.back st9 ?_
  have f_11 : Exa Z h2 r0 "java/util/ArrayList" := Exa.wr W2 E0
  have f_12 : Exa Z h2 r1 "com/example/liken/liken/core/Token" := Exa.wr W2 E_r1
  have f_13 : Arv Z h2 ar kk (.object "java/lang/Object") (10 : Int32) [(.ref x0), .null, .null, .null, .null, .null, .null, .null, .null, .null] .null := Arv.other Va W2 (Ne.symm nea)
  obtain ⟨cq10, qk10, qk10'⟩ := f_11.cell
  obtain ⟨_, _, ⟨T10, L10, k10, n10⟩, -, X10, ⟨Lc10, hQ10, l10, y10, z10⟩, st10⟩ := X9.privateBack hx (y := (⟨"java/util/ArrayList", "add", "(Ljava/lang/Object;[Ljava/lang/Object;I)V"⟩ : MethodName)) hown (mvT hZ (hw _ (own_m 187 rfl))) (mvT hZ (hw _ (own_m 188 rfl))) (mvT hZ (hw _ (own_m 190 rfl))) (Cond.privateMethod_at (mvP hZ (hw _ (own_m 189 rfl)) (args := #[]))) (mvT hZ (hw _ (own_m 191 rfl))) (by decide) (backOf (W := 0) (rm30_1 l Z a0 hw [] r0 r1 ar kk (mc + (1 : Int32)) x0 h2 n0 Z4 f_11 g0 f_12 f_6 f_13 (by first | assumption | decide) ga nea f_8 f_3) hZ (hw _ (own_m 191 rfl)) (hw _ (own_m 82 rfl)) (by decide) (by decide)) (g := (mkF m 20 #[.val (.ref r0), .val (.ref r1)] [(.int (1 : Int32)), (.ref ar), (.ref r1), (.ref r0)])) rfl (by rw [hml]; rfl) (Steps.refl _) (a := r0) (by rw [e9]; exact qk10) qk10' (argsL := [(.ref r1), (.ref ar), (.int (1 : Int32))]) (rest := []) (lenOf own_pd294 rfl) rfl (by show 2 * 0 + _ ≤ _; exact Nat.le_of_eq rfl) (hb hby own_d29_20) (fun _ _ => ⟨rfl, e9, (by decide : 0 + 0 ≤ _), (by decide : 0 + 0 ≤ _)⟩)
  dsimp only [Pt.U, Pt.locs, Pt.cells, Pt.slots] at X10 l10 y10 z10 st10 hQ10
  subst l10 y10 z10
  obtain ⟨rfl, N10q, Kq10, o10_0, o10_1, o10_2, o10_3⟩ := hQ10
  have N10 := Fr.app N2 N10q
  have Z14 : n0 ≤ T10.heap.size := Nat.le_trans Z4 Kq10.1
  have K15 : Keep h0 T10.heap [r0, ar] := K5.trans Kq10 (allS (Or.inl (List.mem_of_getElem? (i := 0) rfl)) (allS (Or.inl (List.mem_of_getElem? (i := 1) rfl)) all0))
  refine Good.back (fun _ k => st10.trans k) ?_
  refine Good.back (fun _ k => XS.iconst X10.here hx rfl (hb hby own_d29_23) k) ?_
  show Good p e below _ (T10.setTop (mkF m 24 #[.val (.ref r0), .val (.ref r1)] [(.int (1 : Int32))]))
  obtain ⟨fs16, hr16, hrun16, hended16, hW16, hsame16⟩ := X10.leave (v := some (.int (1 : Int32))) (fun h => by rw [Bd.returns] at h; cases h)
  refine Good.done (retN X10 hx (t := .boolean) Bd.returns (by simp) (hb hby own_d29_24) hr16) hrun16 hended16 ⟨_, _, rfl, ?_, ⟨_, rfl⟩, hW16, hsame16.mono (by decide) (by decide)⟩
  show Q29_1 Z r0 r1 ar kk mc x0 h0 n0 _ T10.heap _
  exact ⟨rfl, N10, K15, o10_0, o10_1, o10_2, o10_3⟩
theorem own_ef_30_2 (m : MethodId) (x0 : Addr) (x1 : Addr) (x2 : Addr) (x3 : Int32) : entryFrame m #[(.ref x0), (.ref x1), (.ref x2), (.int x3)] 4 = mkF m 0 #[.val (.ref x0), .val (.ref x1), .val (.ref x2), .val (.int x3)] [] := by first | (simp [entryFrame, mkF, argsToLocals, Value.category]; done) | rfl
def Q30_2 (Z : State) (r0 : Addr) (r1 : Addr) (ar : Addr) (kk : ClassId) (mc : Int32) (x0 : Addr) (x1 : Addr) (h0 : Heap) (n0 : Nat) (v : Option Value) (h : Heap) (L : List Loc) : Prop := v = none ∧ Fr n0 L ∧ Keep h0 h [r0, ar] ∧ Arv Z h ar kk (.object "java/lang/Object") (10 : Int32) [(.ref x0), (.ref x1), (.ref r1), .null, .null, .null, .null, .null, .null, .null] .null ∧ Fld Z h r0 "java/util/ArrayList" "elementData" "[Ljava/lang/Object;" (.ref ar) ∧ Fld Z h r0 "java/util/ArrayList" "size" "I" (.int (3 : Int32)) ∧ Fld Z h r0 "java/util/AbstractList" "modCount" "I" (.int mc)
set_option maxRecDepth 65536 in
set_option maxHeartbeats 40000000 in
theorem rm30_2 (l : Launch) (Z : State) (a0 : Array Value) (hw : ∀ d ∈ tables_1, d.before a0 Z = true) (ws : List Jvm.Cond) (r0 : Addr) (r1 : Addr) (ar : Addr) (kk : ClassId) (mc : Int32) (x0 : Addr) (x1 : Addr) (h0 : Heap) (n0 : Nat) (Z0 : n0 ≤ h0.size) (E0 : Exa Z h0 r0 "java/util/ArrayList") (g0 : n0 ≤ r0) (E_r1 : Exa Z h0 r1 "com/example/liken/liken/core/Token") (Fe : Fld Z h0 r0 "java/util/ArrayList" "elementData" "[Ljava/lang/Object;" (.ref ar)) (Va : Arv Z h0 ar kk (.object "java/lang/Object") (10 : Int32) [(.ref x0), (.ref x1), .null, .null, .null, .null, .null, .null, .null, .null] .null) (hov : Ovr Z kk "java/lang/Object") (ga : n0 ≤ ar) (nea : r0 ≠ ar) (Fs : Fld Z h0 r0 "java/util/ArrayList" "size" "I" (.int (2 : Int32))) (Fm : Fld Z h0 r0 "java/util/AbstractList" "modCount" "I" (.int mc)) :
    MetFree l (⟨"java/util/ArrayList", "add", "(Ljava/lang/Object;[Ljava/lang/Object;I)V"⟩ : MethodName) (head1 (Jvm.Cond.code (⟨"java/util/ArrayList", "add", "(Ljava/lang/Object;[Ljava/lang/Object;I)V"⟩ : MethodName) jdk_38_method_24_code 4 none :: ws) ({ frames := 0, cells := 0, slots := 0, locals := 0 } : Room)) (fun a U => a = #[(.ref r0), (.ref r1), (.ref ar), (.int (2 : Int32))] ∧ Z.Warmed39 U.vm ∧ U.heap = h0) (fun _ _ _ _ _ => True) (fun _ U o U' => ∃ v L, o = .returned v ∧ Q30_2 Z r0 r1 ar kk mc x0 x1 h0 n0 v U'.heap L ∧ FrameEnd U o U' L ({ frames := 0, cells := 0, slots := 0, locals := 0 } : Room).cells ({ frames := 0, cells := 0, slots := 0, locals := 0 } : Room).slots) := by
  refine MetFree.of_bodySF (plainFor_of_name own_pn11) hisR ?_
  intro p e s m args below meth c s₁ Bd hml0 hP hK
  obtain ⟨rfl, hZ, hh⟩ := hP
  have hx := Bd.exec
  have hby := Bd.bytes
  have hml : c.maxLocals = 4 := hml0
  have hown : s.vm.findClass "java/util/ArrayList" = some m.cls := findClass_of_methodNamed Bd.named
  have hnm := (name_of_methodNamed Bd.named Bd.method).1
  have X0 : Stand p l e ({ frames := 0, cells := 0, slots := 0, locals := 0 } : Room) s m #[(.ref r0), (.ref r1), (.ref ar), (.int (2 : Int32))] below meth c s₁ [] 0 0 := Stand.of_body Bd
  have e0 : s₁.heap = h0 := by rw [← hh, Bd.state]; rfl
  have N0 := Fr.nil n0
  have KR : Keep h0 h0 [r0, ar] := Keep.refl h0 _
  show Good p e below (fun o U' => ∃ v L, o = .returned v ∧ Q30_2 Z r0 r1 ar kk mc x0 x1 h0 n0 v U'.heap L ∧ FrameEnd s o U' L ({ frames := 0, cells := 0, slots := 0, locals := 0 } : Room).cells ({ frames := 0, cells := 0, slots := 0, locals := 0 } : Room).slots) _
  refine Good.back (S' := s₁.setTop (mkF m 0 #[.val (.ref r0), .val (.ref r1), .val (.ref ar), .val (.int (2 : Int32))] [])) (fun t k => castTop (own_ef_30_2 m r0 r1 ar (2 : Int32)) k) ?_
  show Good p e below _ (s₁.setTop (mkF m 0 #[.val (.ref r0), .val (.ref r1), .val (.ref ar), .val (.int (2 : Int32))] []))
  refine Good.back (fun _ k => XS.iloadN X0.here hx rfl (hb hby own_d30_0) rfl k) ?_
  refine Good.back (fun _ k => XS.aloadN X0.here hx rfl (hb hby own_d30_1) rfl rfl k) ?_
  have fc1 := Va
  obtain ⟨cl1, Ar1, qk1, S1, N1', H1, G1⟩ := fc1
  refine Good.back (X0.arraylength hx (by rw [e0]; exact Ar1.1) (State.isArrayOf_alike hZ.alike Ar1.2.1) (g := (mkF m 2 #[.val (.ref r0), .val (.ref r1), .val (.ref ar), .val (.int (2 : Int32))] [(.ref ar), (.int (2 : Int32))])) rfl rfl (hb hby own_d30_2)) ?_
  rw [len_of S1 N1']
  show Good p e below _ (s₁.setTop (mkF m 3 #[.val (.ref r0), .val (.ref r1), .val (.ref ar), .val (.int (2 : Int32))] [(.int (10 : Int32)), (.int (2 : Int32))]))
  refine Good.back (fun _ k => XS.icmpYes X0.here hx rfl (pc0 := 3) (pc' := 11) rfl (hb hby own_d30_3) rfl (feq (by decide : ¬ ((2 : Int32) = (10 : Int32)))).2 (by decide) (by decide) k) ?_
  show Good p e below _ (s₁.setTop (mkF m 11 #[.val (.ref r0), .val (.ref r1), .val (.ref ar), .val (.int (2 : Int32))] []))
  refine Good.back (fun _ k => XS.aloadN X0.here hx rfl (hb hby own_d30_11) rfl rfl k) ?_
  refine Good.back (fun _ k => XS.iloadN X0.here hx rfl (hb hby own_d30_12) rfl k) ?_
  refine Good.back (fun _ k => XS.aloadN X0.here hx rfl (hb hby own_d30_13) rfl rfl k) ?_
  have fc2 := Va
  obtain ⟨cl2, Ar2, qk2, S2, N2', H2, G2⟩ := fc2
  have hin2 : ¬ ((2 : Int32) < 0 ∨ cl2.slots.size ≤ ((2 : Int32)).toNatClampNeg) := inb_of S2 ⟨by decide, by decide⟩
  obtain ⟨T2, h2, X2, e2, W2, st2⟩ := stR X0 hx hZ e0 Ar2 (j := (2 : Int32)) hin2 rfl (Sto.ofV Ar2 qk2 hov (Ins.of_exa E_r1 (hw _ (own_m 208 rfl)))) (g := (mkF m 14 #[.val (.ref r0), .val (.ref r1), .val (.ref ar), .val (.int (2 : Int32))] [(.ref r1), (.int (2 : Int32)), (.ref ar)])) rfl rfl (hb hby own_d30_14)
  refine Good.back st2 ?_
  have f_3 : Arv Z h2 ar kk (.object "java/lang/Object") (10 : Int32) [(.ref x0), (.ref x1), (.ref r1), .null, .null, .null, .null, .null, .null, .null] .null := Arv.set Ar2 qk2 S2 N2' H2 G2 rfl W2 2 rfl (Nat.le_of_ble_eq_true rfl)
  have N2 := Fr.snoc X2 N0 ga
  have Z4 : n0 ≤ h2.size := Nat.le_trans Z0 (Keep.of_wr W2).1
  have K5 : Keep h0 h2 [r0, ar] := KR.wr W2 (Or.inl (List.mem_of_getElem? (i := 1) rfl))
  refine Good.back (fun _ k => XS.aloadN X2.here hx rfl (hb hby own_d30_15) rfl rfl k) ?_
  refine Good.back (fun _ k => XS.iloadN X2.here hx rfl (hb hby own_d30_16) rfl k) ?_
  refine Good.back (fun _ k => XS.iconst X2.here hx rfl (hb hby own_d30_17) k) ?_
  show Good p e below _ (T2.setTop (mkF m 18 #[.val (.ref r0), .val (.ref r1), .val (.ref ar), .val (.int (2 : Int32))] [(.int (1 : Int32)), (.int (2 : Int32)), (.ref r0)]))
  refine Good.back (fun _ k => XS.iadd X2.here hx rfl (hb hby own_d30_18) rfl k) ?_
  show Good p e below _ (T2.setTop (mkF m 19 #[.val (.ref r0), .val (.ref r1), .val (.ref ar), .val (.int (2 : Int32))] [(.int ((2 : Int32) + (1 : Int32))), (.ref r0)]))
  rw [show (((2 : Int32) + (1 : Int32)) : Int32) = (3 : Int32) from by decide]
  show Good p e below _ (T2.setTop (mkF m 19 #[.val (.ref r0), .val (.ref r1), .val (.ref ar), .val (.int (2 : Int32))] [(.int (3 : Int32)), (.ref r0)]))
  have f_6 : Fld Z h2 r0 "java/util/ArrayList" "size" "I" (.int (2 : Int32)) := Fld.other W2 Fs (Or.inl nea)
  have f_7 : Exa Z h2 r0 "java/util/ArrayList" := Exa.wr W2 E0
  obtain ⟨T8, h8, X8, e8, W8, st8⟩ := putF X2 hx hZ hown (host := "") (Or.inl (hw _ (own_m 135 rfl))) Via.refl e2 f_6 f_7 (Or.inl (hw _ (own_m 136 rfl))) (hw _ (own_m 81 rfl)) (ty := .int) (by decide) rfl rfl (g := (mkF m 19 #[.val (.ref r0), .val (.ref r1), .val (.ref ar), .val (.int (2 : Int32))] [(.int (3 : Int32)), (.ref r0)])) rfl rfl (hb hby own_d30_19)
  refine Good.back st8 ?_
  have f_9 : Fld Z h8 r0 "java/util/ArrayList" "size" "I" (.int (3 : Int32)) := Fld.same W8 f_6
  have N8 := Fr.snoc X8 N2 g0
  have Z10 : n0 ≤ h8.size := Nat.le_trans Z4 (Keep.of_wr W8).1
  have K11 : Keep h0 h8 [r0, ar] := K5.wr W8 (Or.inl (List.mem_of_getElem? (i := 0) rfl))
  show Good p e below _ (T8.setTop (mkF m 22 #[.val (.ref r0), .val (.ref r1), .val (.ref ar), .val (.int (2 : Int32))] []))
  obtain ⟨fs12, hr12, hrun12, hended12, hW12, hsame12⟩ := X8.leave (v := none) (fun _ => rfl)
  refine Good.done (X8.returnOut hx Bd.returns (hb hby own_d30_22) hr12) hrun12 hended12 ⟨_, _, rfl, ?_, ⟨_, rfl⟩, hW12, hsame12.mono (by decide) (by decide)⟩
  show Q30_2 Z r0 r1 ar kk mc x0 x1 h0 n0 _ T8.heap _
  rw [e8]
  have f_13 : Arv Z h8 ar kk (.object "java/lang/Object") (10 : Int32) [(.ref x0), (.ref x1), (.ref r1), .null, .null, .null, .null, .null, .null, .null] .null := Arv.other f_3 W8 (Ne.symm nea)
  have f_14 : Fld Z h2 r0 "java/util/ArrayList" "elementData" "[Ljava/lang/Object;" (.ref ar) := Fld.other W2 Fe (Or.inl nea)
  have f_15 : Fld Z h8 r0 "java/util/ArrayList" "elementData" "[Ljava/lang/Object;" (.ref ar) := Fld.other W8 f_14 (Or.inr (slot_ne (Or.inl (hw _ (own_m 103 rfl))) (Or.inl (hw _ (own_m 136 rfl))) (by decide) (t := (.array (.object "java/lang/Object"))) (t' := .int) (by decide) (by decide)))
  have f_16 : Fld Z h2 r0 "java/util/AbstractList" "modCount" "I" (.int mc) := Fld.other W2 Fm (Or.inl nea)
  have f_17 : Fld Z h8 r0 "java/util/AbstractList" "modCount" "I" (.int mc) := Fld.other W8 f_16 (Or.inr (slot_ne (Or.inl (hw _ (own_m 100 rfl))) (Or.inl (hw _ (own_m 136 rfl))) (by decide) (t := .int) (t' := .int) (by decide) (by decide)))
  exact ⟨rfl, N8, K11, f_13, f_15, f_9, f_17⟩
theorem own_ef_29_2 (m : MethodId) (x0 : Addr) (x1 : Addr) : entryFrame m #[(.ref x0), (.ref x1)] 2 = mkF m 0 #[.val (.ref x0), .val (.ref x1)] [] := by first | (simp [entryFrame, mkF, argsToLocals, Value.category]; done) | rfl
def Q29_2 (Z : State) (r0 : Addr) (r1 : Addr) (ar : Addr) (kk : ClassId) (mc : Int32) (x0 : Addr) (x1 : Addr) (h0 : Heap) (n0 : Nat) (v : Option Value) (h : Heap) (L : List Loc) : Prop := v = some (.int (1 : Int32)) ∧ Fr n0 L ∧ Keep h0 h [r0, ar] ∧ Arv Z h ar kk (.object "java/lang/Object") (10 : Int32) [(.ref x0), (.ref x1), (.ref r1), .null, .null, .null, .null, .null, .null, .null] .null ∧ Fld Z h r0 "java/util/ArrayList" "elementData" "[Ljava/lang/Object;" (.ref ar) ∧ Fld Z h r0 "java/util/ArrayList" "size" "I" (.int (3 : Int32)) ∧ Fld Z h r0 "java/util/AbstractList" "modCount" "I" (.int (mc + (1 : Int32)))
set_option maxRecDepth 65536 in
set_option maxHeartbeats 40000000 in
theorem rm29_2 (l : Launch) (Z : State) (a0 : Array Value) (hw : ∀ d ∈ tables_1, d.before a0 Z = true) (ws : List Jvm.Cond) (r0 : Addr) (r1 : Addr) (ar : Addr) (kk : ClassId) (mc : Int32) (x0 : Addr) (x1 : Addr) (h0 : Heap) (n0 : Nat) (Z0 : n0 ≤ h0.size) (E0 : Exa Z h0 r0 "java/util/ArrayList") (g0 : n0 ≤ r0) (E_r1 : Exa Z h0 r1 "com/example/liken/liken/core/Token") (Fe : Fld Z h0 r0 "java/util/ArrayList" "elementData" "[Ljava/lang/Object;" (.ref ar)) (Va : Arv Z h0 ar kk (.object "java/lang/Object") (10 : Int32) [(.ref x0), (.ref x1), .null, .null, .null, .null, .null, .null, .null, .null] .null) (hov : Ovr Z kk "java/lang/Object") (ga : n0 ≤ ar) (nea : r0 ≠ ar) (Fs : Fld Z h0 r0 "java/util/ArrayList" "size" "I" (.int (2 : Int32))) (Fm : Fld Z h0 r0 "java/util/AbstractList" "modCount" "I" (.int mc)) :
    MetFree l (⟨"java/util/ArrayList", "add", "(Ljava/lang/Object;)Z"⟩ : MethodName) (head1 (Jvm.Cond.code (⟨"java/util/ArrayList", "add", "(Ljava/lang/Object;)Z"⟩ : MethodName) jdk_38_method_25_code 2 (some .boolean) :: ws) ({ frames := 1, cells := 0, slots := 0, locals := 15 } : Room)) (fun a U => a = #[(.ref r0), (.ref r1)] ∧ Z.Warmed39 U.vm ∧ U.heap = h0) (fun _ _ _ _ _ => True) (fun _ U o U' => ∃ v L, o = .returned v ∧ Q29_2 Z r0 r1 ar kk mc x0 x1 h0 n0 v U'.heap L ∧ FrameEnd U o U' L ({ frames := 1, cells := 0, slots := 0, locals := 15 } : Room).cells ({ frames := 1, cells := 0, slots := 0, locals := 15 } : Room).slots) := by
  refine MetFree.of_bodySF (plainFor_of_name own_pn11) hisR ?_
  intro p e s m args below meth c s₁ Bd hml0 hP hK
  obtain ⟨rfl, hZ, hh⟩ := hP
  have hx := Bd.exec
  have hby := Bd.bytes
  have hml : c.maxLocals = 2 := hml0
  have hown : s.vm.findClass "java/util/ArrayList" = some m.cls := findClass_of_methodNamed Bd.named
  have hnm := (name_of_methodNamed Bd.named Bd.method).1
  have X0 : Stand p l e ({ frames := 1, cells := 0, slots := 0, locals := 15 } : Room) s m #[(.ref r0), (.ref r1)] below meth c s₁ [] 0 0 := Stand.of_body Bd
  have e0 : s₁.heap = h0 := by rw [← hh, Bd.state]; rfl
  have N0 := Fr.nil n0
  have KR : Keep h0 h0 [r0, ar] := Keep.refl h0 _
  show Good p e below (fun o U' => ∃ v L, o = .returned v ∧ Q29_2 Z r0 r1 ar kk mc x0 x1 h0 n0 v U'.heap L ∧ FrameEnd s o U' L ({ frames := 1, cells := 0, slots := 0, locals := 15 } : Room).cells ({ frames := 1, cells := 0, slots := 0, locals := 15 } : Room).slots) _
  refine Good.back (S' := s₁.setTop (mkF m 0 #[.val (.ref r0), .val (.ref r1)] [])) (fun t k => castTop (own_ef_29_2 m r0 r1) k) ?_
  show Good p e below _ (s₁.setTop (mkF m 0 #[.val (.ref r0), .val (.ref r1)] []))
  refine Good.back (fun _ k => XS.aloadN X0.here hx rfl (hb hby own_d29_0) rfl rfl k) ?_
  refine Good.back (fun _ k => XS.dup X0.here hx rfl (hb hby own_d29_1) rfl rfl k) ?_
  obtain ⟨T1, X1, e1, st1⟩ := getF X0 hx hZ hown (host := "") (Or.inl (hw _ (own_m 185 rfl))) (Via.of (hw _ (own_m 186 rfl))) e0 Fm (g := (mkF m 2 #[.val (.ref r0), .val (.ref r1)] [(.ref r0), (.ref r0)])) rfl rfl (hb hby own_d29_2)
  refine Good.back st1 ?_
  refine Good.back (fun _ k => XS.iconst X1.here hx rfl (hb hby own_d29_5) k) ?_
  show Good p e below _ (T1.setTop (mkF m 6 #[.val (.ref r0), .val (.ref r1)] [(.int (1 : Int32)), (.int mc), (.ref r0)]))
  refine Good.back (fun _ k => XS.iadd X1.here hx rfl (hb hby own_d29_6) rfl k) ?_
  show Good p e below _ (T1.setTop (mkF m 7 #[.val (.ref r0), .val (.ref r1)] [(.int (mc + (1 : Int32))), (.ref r0)]))
  obtain ⟨T2, h2, X2, e2, W2, st2⟩ := putF X1 hx hZ hown (host := "") (Or.inl (hw _ (own_m 185 rfl))) (Via.of (hw _ (own_m 186 rfl))) e1 Fm E0 (Or.inl (hw _ (own_m 100 rfl))) (hw _ (own_m 81 rfl)) (ty := .int) (by decide) rfl rfl (g := (mkF m 7 #[.val (.ref r0), .val (.ref r1)] [(.int (mc + (1 : Int32))), (.ref r0)])) rfl rfl (hb hby own_d29_7)
  refine Good.back st2 ?_
  have f_3 : Fld Z h2 r0 "java/util/AbstractList" "modCount" "I" (.int (mc + (1 : Int32))) := Fld.same W2 Fm
  have N2 := Fr.snoc X2 N0 g0
  have Z4 : n0 ≤ h2.size := Nat.le_trans Z0 (Keep.of_wr W2).1
  have K5 : Keep h0 h2 [r0, ar] := KR.wr W2 (Or.inl (List.mem_of_getElem? (i := 0) rfl))
  refine Good.back (fun _ k => XS.aloadN X2.here hx rfl (hb hby own_d29_10) rfl rfl k) ?_
  refine Good.back (fun _ k => XS.aloadN X2.here hx rfl (hb hby own_d29_11) rfl rfl k) ?_
  refine Good.back (fun _ k => XS.aloadN X2.here hx rfl (hb hby own_d29_12) rfl rfl k) ?_
  have f_6 : Fld Z h2 r0 "java/util/ArrayList" "elementData" "[Ljava/lang/Object;" (.ref ar) := Fld.other W2 Fe (Or.inr (slot_ne (Or.inl (hw _ (own_m 103 rfl))) (Or.inl (hw _ (own_m 100 rfl))) (by decide) (t := (.array (.object "java/lang/Object"))) (t' := .int) (by decide) (by decide)))
  obtain ⟨T7, X7, e7, st7⟩ := getF X2 hx hZ hown (host := "") (Or.inl (hw _ (own_m 102 rfl))) Via.refl e2 f_6 (g := (mkF m 13 #[.val (.ref r0), .val (.ref r1)] [(.ref r0), (.ref r1), (.ref r0)])) rfl rfl (hb hby own_d29_13)
  refine Good.back st7 ?_
  refine Good.back (fun _ k => XS.aloadN X7.here hx rfl (hb hby own_d29_16) rfl rfl k) ?_
  have f_8 : Fld Z h2 r0 "java/util/ArrayList" "size" "I" (.int (2 : Int32)) := Fld.other W2 Fs (Or.inr (slot_ne (Or.inl (hw _ (own_m 136 rfl))) (Or.inl (hw _ (own_m 100 rfl))) (by decide) (t := .int) (t' := .int) (by decide) (by decide)))
  obtain ⟨T9, X9, e9, st9⟩ := getF X7 hx hZ hown (host := "") (Or.inl (hw _ (own_m 135 rfl))) Via.refl e7 f_8 (g := (mkF m 17 #[.val (.ref r0), .val (.ref r1)] [(.ref r0), (.ref ar), (.ref r1), (.ref r0)])) rfl rfl (hb hby own_d29_17)
  refine Good.back st9 ?_
  have f_11 : Exa Z h2 r0 "java/util/ArrayList" := Exa.wr W2 E0
  have f_12 : Exa Z h2 r1 "com/example/liken/liken/core/Token" := Exa.wr W2 E_r1
  have f_13 : Arv Z h2 ar kk (.object "java/lang/Object") (10 : Int32) [(.ref x0), (.ref x1), .null, .null, .null, .null, .null, .null, .null, .null] .null := Arv.other Va W2 (Ne.symm nea)
  obtain ⟨cq10, qk10, qk10'⟩ := f_11.cell
  obtain ⟨_, _, ⟨T10, L10, k10, n10⟩, -, X10, ⟨Lc10, hQ10, l10, y10, z10⟩, st10⟩ := X9.privateBack hx (y := (⟨"java/util/ArrayList", "add", "(Ljava/lang/Object;[Ljava/lang/Object;I)V"⟩ : MethodName)) hown (mvT hZ (hw _ (own_m 187 rfl))) (mvT hZ (hw _ (own_m 188 rfl))) (mvT hZ (hw _ (own_m 190 rfl))) (Cond.privateMethod_at (mvP hZ (hw _ (own_m 189 rfl)) (args := #[]))) (mvT hZ (hw _ (own_m 191 rfl))) (by decide) (backOf (W := 0) (rm30_2 l Z a0 hw [] r0 r1 ar kk (mc + (1 : Int32)) x0 x1 h2 n0 Z4 f_11 g0 f_12 f_6 f_13 (by first | assumption | decide) ga nea f_8 f_3) hZ (hw _ (own_m 191 rfl)) (hw _ (own_m 82 rfl)) (by decide) (by decide)) (g := (mkF m 20 #[.val (.ref r0), .val (.ref r1)] [(.int (2 : Int32)), (.ref ar), (.ref r1), (.ref r0)])) rfl (by rw [hml]; rfl) (Steps.refl _) (a := r0) (by rw [e9]; exact qk10) qk10' (argsL := [(.ref r1), (.ref ar), (.int (2 : Int32))]) (rest := []) (lenOf own_pd294 rfl) rfl (by show 2 * 0 + _ ≤ _; exact Nat.le_of_eq rfl) (hb hby own_d29_20) (fun _ _ => ⟨rfl, e9, (by decide : 0 + 0 ≤ _), (by decide : 0 + 0 ≤ _)⟩)
  dsimp only [Pt.U, Pt.locs, Pt.cells, Pt.slots] at X10 l10 y10 z10 st10 hQ10
  subst l10 y10 z10
  obtain ⟨rfl, N10q, Kq10, o10_0, o10_1, o10_2, o10_3⟩ := hQ10
  have N10 := Fr.app N2 N10q
  have Z14 : n0 ≤ T10.heap.size := Nat.le_trans Z4 Kq10.1
  have K15 : Keep h0 T10.heap [r0, ar] := K5.trans Kq10 (allS (Or.inl (List.mem_of_getElem? (i := 0) rfl)) (allS (Or.inl (List.mem_of_getElem? (i := 1) rfl)) all0))
  refine Good.back (fun _ k => st10.trans k) ?_
  refine Good.back (fun _ k => XS.iconst X10.here hx rfl (hb hby own_d29_23) k) ?_
  show Good p e below _ (T10.setTop (mkF m 24 #[.val (.ref r0), .val (.ref r1)] [(.int (1 : Int32))]))
  obtain ⟨fs16, hr16, hrun16, hended16, hW16, hsame16⟩ := X10.leave (v := some (.int (1 : Int32))) (fun h => by rw [Bd.returns] at h; cases h)
  refine Good.done (retN X10 hx (t := .boolean) Bd.returns (by simp) (hb hby own_d29_24) hr16) hrun16 hended16 ⟨_, _, rfl, ?_, ⟨_, rfl⟩, hW16, hsame16.mono (by decide) (by decide)⟩
  show Q29_2 Z r0 r1 ar kk mc x0 x1 h0 n0 _ T10.heap _
  exact ⟨rfl, N10, K15, o10_0, o10_1, o10_2, o10_3⟩
theorem own_pn12 : plainName "com/example/liken/liken/core/TokenSlice" = true := by first | (simp [plainName, overriddenIn]; done) | decide +kernel
theorem own_d18_0 : decode prog_45_method_4_code 0 = .ok (.aload_n 0, 1) := by decide +kernel
theorem own_d18_1 : decode prog_45_method_4_code 1 = .ok (.instanceof 8, 3) := by decide +kernel
theorem own_d18_4 : decode prog_45_method_4_code 4 = .ok (.ifCond .eq 15, 3) := by decide +kernel
theorem own_d18_19 : decode prog_45_method_4_code 19 = .ok (.aload_n 0, 1) := by decide +kernel
theorem own_d18_20 : decode prog_45_method_4_code 20 = .ok (.areturn, 1) := by decide +kernel
theorem own_ef_18A (m : MethodId) (x0 : Addr) : entryFrame m #[(.ref x0)] 2 = mkF m 0 #[.val (.ref x0), .unset] [] := by first | (simp [entryFrame, mkF, argsToLocals, Value.category]; done) | rfl
def Q18A (Z : State) (r0 : Addr) (h0 : Heap) (n0 : Nat) (v : Option Value) (h : Heap) (L : List Loc) : Prop := v = some (.ref r0) ∧ Fr n0 L ∧ h = h0
set_option maxRecDepth 65536 in
set_option maxHeartbeats 40000000 in
theorem rm18A (l : Launch) (Z : State) (a0 : Array Value) (hw : ∀ d ∈ tables_1, d.before a0 Z = true) (ws : List Jvm.Cond) (r0 : Addr) (h0 : Heap) (n0 : Nat) (Z0 : n0 ≤ h0.size) (E0 : Exa Z h0 r0 "java/util/ArrayList") :
    MetFree l (⟨"com/example/liken/liken/core/TokenSlice", "held", "(Ljava/util/List;)Ljava/util/List;"⟩ : MethodName) (head1 (Jvm.Cond.code (⟨"com/example/liken/liken/core/TokenSlice", "held", "(Ljava/util/List;)Ljava/util/List;"⟩ : MethodName) prog_45_method_4_code 2 (some (.object "java/util/List")) :: ws) ({ frames := 0, cells := 0, slots := 0, locals := 0 } : Room)) (fun a U => a = #[(.ref r0)] ∧ Z.Warmed39 U.vm ∧ U.heap = h0) (fun _ _ _ _ _ => True) (fun _ U o U' => ∃ v L, o = .returned v ∧ Q18A Z r0 h0 n0 v U'.heap L ∧ FrameEnd U o U' L ({ frames := 0, cells := 0, slots := 0, locals := 0 } : Room).cells ({ frames := 0, cells := 0, slots := 0, locals := 0 } : Room).slots) := by
  refine MetFree.of_bodySF (plainFor_of_name own_pn12) hisR ?_
  intro p e s m args below meth c s₁ Bd hml0 hP hK
  obtain ⟨rfl, hZ, hh⟩ := hP
  have hx := Bd.exec
  have hby := Bd.bytes
  have hml : c.maxLocals = 2 := hml0
  have hown : s.vm.findClass "com/example/liken/liken/core/TokenSlice" = some m.cls := findClass_of_methodNamed Bd.named
  have hnm := (name_of_methodNamed Bd.named Bd.method).1
  have X0 : Stand p l e ({ frames := 0, cells := 0, slots := 0, locals := 0 } : Room) s m #[(.ref r0)] below meth c s₁ [] 0 0 := Stand.of_body Bd
  have e0 : s₁.heap = h0 := by rw [← hh, Bd.state]; rfl
  have N0 := Fr.nil n0
  show Good p e below (fun o U' => ∃ v L, o = .returned v ∧ Q18A Z r0 h0 n0 v U'.heap L ∧ FrameEnd s o U' L ({ frames := 0, cells := 0, slots := 0, locals := 0 } : Room).cells ({ frames := 0, cells := 0, slots := 0, locals := 0 } : Room).slots) _
  refine Good.back (S' := s₁.setTop (mkF m 0 #[.val (.ref r0), .unset] [])) (fun t k => castTop (own_ef_18A m r0) k) ?_
  show Good p e below _ (s₁.setTop (mkF m 0 #[.val (.ref r0), .unset] []))
  refine Good.back (fun _ k => XS.aloadN X0.here hx rfl (hb hby own_d18_0) rfl rfl k) ?_
  obtain ⟨T1, X1, e1, st1⟩ := instNo X0 hx hZ hown (hw _ (own_m 108 rfl)) e0 E0 (own_nsNo (hw _ (own_m 109 rfl)) (hw _ (own_m 141 rfl)) (NS.step (hw _ (own_m 109 rfl)) (NS.step (hw _ (own_m 110 rfl)) (NS.step (hw _ (own_m 111 rfl)) (own_nsRoot (hw _ (own_m 112 rfl)) (hw _ (own_m 141 rfl)) (by decide)) (by decide)) (by decide)) (by decide)) (by decide)) (g := (mkF m 1 #[.val (.ref r0), .unset] [(.ref r0)])) rfl rfl (hb hby own_d18_1)
  refine Good.back st1 ?_
  show Good p e below _ (T1.setTop (mkF m 4 #[.val (.ref r0), .unset] [(.int (0 : Int32))]))
  refine Good.back (fun _ k => XS.ifYes X1.here hx rfl (pc0 := 4) (pc' := 19) rfl (hb hby own_d18_4) rfl ((if0 _ _).trans (teq (by decide : ((0 : Int32) = (0 : Int32)))).1) (by decide) (by decide) k) ?_
  show Good p e below _ (T1.setTop (mkF m 19 #[.val (.ref r0), .unset] []))
  refine Good.back (fun _ k => XS.aloadN X1.here hx rfl (hb hby own_d18_19) rfl rfl k) ?_
  show Good p e below _ (T1.setTop (mkF m 20 #[.val (.ref r0), .unset] [(.ref r0)]))
  obtain ⟨fs2, hr2, hrun2, hended2, hW2, hsame2⟩ := X1.leave (v := some (.ref r0)) (fun h => by rw [Bd.returns] at h; cases h)
  refine Good.done (retOut X1 hx Bd.returns rfl (Or.inr (Or.inr (Or.inr (Or.inr ⟨rfl, rfl, rfl⟩)))) (hb hby own_d18_20) hr2) hrun2 hended2 ⟨_, _, rfl, ?_, ⟨_, rfl⟩, hW2, hsame2.mono (by decide) (by decide)⟩
  show Q18A Z r0 h0 n0 _ T1.heap _
  rw [e1]
  exact ⟨rfl, N0, rfl⟩
theorem own_d18_7 : decode prog_45_method_4_code 7 = .ok (.aload_n 0, 1) := by decide +kernel
theorem own_d18_8 : decode prog_45_method_4_code 8 = .ok (.checkcast 8, 3) := by decide +kernel
theorem own_d18_11 : decode prog_45_method_4_code 11 = .ok (.astore_n 1, 1) := by decide +kernel
theorem own_d18_12 : decode prog_45_method_4_code 12 = .ok (.aload_n 1, 1) := by decide +kernel
theorem own_d18_13 : decode prog_45_method_4_code 13 = .ok (.getfield 7, 3) := by decide +kernel
theorem own_d18_16 : decode prog_45_method_4_code 16 = .ok (.goto 4, 3) := by decide +kernel
theorem own_ef_18T (m : MethodId) (x0 : Addr) : entryFrame m #[(.ref x0)] 2 = mkF m 0 #[.val (.ref x0), .unset] [] := by first | (simp [entryFrame, mkF, argsToLocals, Value.category]; done) | rfl
def Q18T (Z : State) (r0 : Addr) (al : Addr) (h0 : Heap) (n0 : Nat) (v : Option Value) (h : Heap) (L : List Loc) : Prop := v = some (.ref al) ∧ Fr n0 L ∧ h = h0
set_option maxRecDepth 65536 in
set_option maxHeartbeats 40000000 in
theorem rm18T (l : Launch) (Z : State) (a0 : Array Value) (hw : ∀ d ∈ tables_1, d.before a0 Z = true) (ws : List Jvm.Cond) (r0 : Addr) (al : Addr) (h0 : Heap) (n0 : Nat) (Z0 : n0 ≤ h0.size) (E0 : Exa Z h0 r0 "com/example/liken/liken/core/TokenSlice") (F_r0_all : Fld Z h0 r0 "com/example/liken/liken/core/TokenSlice" "all" "Ljava/util/List;" (.ref al)) :
    MetFree l (⟨"com/example/liken/liken/core/TokenSlice", "held", "(Ljava/util/List;)Ljava/util/List;"⟩ : MethodName) (head1 (Jvm.Cond.code (⟨"com/example/liken/liken/core/TokenSlice", "held", "(Ljava/util/List;)Ljava/util/List;"⟩ : MethodName) prog_45_method_4_code 2 (some (.object "java/util/List")) :: ws) ({ frames := 0, cells := 0, slots := 0, locals := 0 } : Room)) (fun a U => a = #[(.ref r0)] ∧ Z.Warmed39 U.vm ∧ U.heap = h0) (fun _ _ _ _ _ => True) (fun _ U o U' => ∃ v L, o = .returned v ∧ Q18T Z r0 al h0 n0 v U'.heap L ∧ FrameEnd U o U' L ({ frames := 0, cells := 0, slots := 0, locals := 0 } : Room).cells ({ frames := 0, cells := 0, slots := 0, locals := 0 } : Room).slots) := by
  refine MetFree.of_bodySF (plainFor_of_name own_pn12) hisR ?_
  intro p e s m args below meth c s₁ Bd hml0 hP hK
  obtain ⟨rfl, hZ, hh⟩ := hP
  have hx := Bd.exec
  have hby := Bd.bytes
  have hml : c.maxLocals = 2 := hml0
  have hown : s.vm.findClass "com/example/liken/liken/core/TokenSlice" = some m.cls := findClass_of_methodNamed Bd.named
  have hnm := (name_of_methodNamed Bd.named Bd.method).1
  have X0 : Stand p l e ({ frames := 0, cells := 0, slots := 0, locals := 0 } : Room) s m #[(.ref r0)] below meth c s₁ [] 0 0 := Stand.of_body Bd
  have e0 : s₁.heap = h0 := by rw [← hh, Bd.state]; rfl
  have N0 := Fr.nil n0
  show Good p e below (fun o U' => ∃ v L, o = .returned v ∧ Q18T Z r0 al h0 n0 v U'.heap L ∧ FrameEnd s o U' L ({ frames := 0, cells := 0, slots := 0, locals := 0 } : Room).cells ({ frames := 0, cells := 0, slots := 0, locals := 0 } : Room).slots) _
  refine Good.back (S' := s₁.setTop (mkF m 0 #[.val (.ref r0), .unset] [])) (fun t k => castTop (own_ef_18T m r0) k) ?_
  show Good p e below _ (s₁.setTop (mkF m 0 #[.val (.ref r0), .unset] []))
  refine Good.back (fun _ k => XS.aloadN X0.here hx rfl (hb hby own_d18_0) rfl rfl k) ?_
  obtain ⟨T1, X1, e1, st1⟩ := instY X0 hx hZ hown (hw _ (own_m 108 rfl)) e0 (Ins.self E0) (g := (mkF m 1 #[.val (.ref r0), .unset] [(.ref r0)])) rfl rfl (hb hby own_d18_1)
  refine Good.back st1 ?_
  show Good p e below _ (T1.setTop (mkF m 4 #[.val (.ref r0), .unset] [(.int (1 : Int32))]))
  refine Good.back (fun _ k => XS.ifNo X1.here hx rfl (hb hby own_d18_4) rfl ((if0 _ _).trans (feq (by decide : ¬ ((1 : Int32) = (0 : Int32)))).1) k) ?_
  show Good p e below _ (T1.setTop (mkF m 7 #[.val (.ref r0), .unset] []))
  refine Good.back (fun _ k => XS.aloadN X1.here hx rfl (hb hby own_d18_7) rfl rfl k) ?_
  obtain ⟨T2, X2, e2, st2⟩ := castY X1 hx hZ hown (hw _ (own_m 108 rfl)) e1 (Ins.self E0) (g := (mkF m 8 #[.val (.ref r0), .unset] [(.ref r0)])) rfl rfl (hb hby own_d18_8)
  refine Good.back st2 ?_
  show Good p e below _ (T2.setTop (mkF m 11 #[.val (.ref r0), .unset] [(.ref r0)]))
  refine Good.back (fun _ k => XS.astoreN X2.here hx rfl (hb hby own_d18_11) rfl rfl (l' := #[.val (.ref r0), .val (.ref r0)]) rfl k) ?_
  refine Good.back (fun _ k => XS.aloadN X2.here hx rfl (hb hby own_d18_12) rfl rfl k) ?_
  obtain ⟨T3, X3, e3, st3⟩ := getF X2 hx hZ hown (host := "") (Or.inl (hw _ (own_m 160 rfl))) Via.refl e2 F_r0_all (g := (mkF m 13 #[.val (.ref r0), .val (.ref r0)] [(.ref r0)])) rfl rfl (hb hby own_d18_13)
  refine Good.back st3 ?_
  show Good p e below _ (T3.setTop (mkF m 16 #[.val (.ref r0), .val (.ref r0)] [(.ref al)]))
  refine Good.back (fun _ k => XS.goto X3.here hx rfl (pc0 := 16) (pc' := 20) rfl (hb hby own_d18_16) (by decide) (by decide) k) ?_
  show Good p e below _ (T3.setTop (mkF m 20 #[.val (.ref r0), .val (.ref r0)] [(.ref al)]))
  obtain ⟨fs4, hr4, hrun4, hended4, hW4, hsame4⟩ := X3.leave (v := some (.ref al)) (fun h => by rw [Bd.returns] at h; cases h)
  refine Good.done (retOut X3 hx Bd.returns rfl (Or.inr (Or.inr (Or.inr (Or.inr ⟨rfl, rfl, rfl⟩)))) (hb hby own_d18_20) hr4) hrun4 hended4 ⟨_, _, rfl, ?_, ⟨_, rfl⟩, hW4, hsame4.mono (by decide) (by decide)⟩
  show Q18T Z r0 al h0 n0 _ T3.heap _
  rw [e3]
  exact ⟨rfl, N0, rfl⟩
theorem own_d25_0 : decode prog_45_method_1_code 0 = .ok (.aload_n 0, 1) := by decide +kernel
theorem own_d25_1 : decode prog_45_method_1_code 1 = .ok (.invokespecial 1, 3) := by decide +kernel
theorem own_d25_4 : decode prog_45_method_1_code 4 = .ok (.aload_n 0, 1) := by decide +kernel
theorem own_d25_5 : decode prog_45_method_1_code 5 = .ok (.aload_n 1, 1) := by decide +kernel
theorem own_d25_6 : decode prog_45_method_1_code 6 = .ok (.putfield 7, 3) := by decide +kernel
theorem own_d25_9 : decode prog_45_method_1_code 9 = .ok (.aload_n 0, 1) := by decide +kernel
theorem own_d25_10 : decode prog_45_method_1_code 10 = .ok (.iload_n 2, 1) := by decide +kernel
theorem own_d25_11 : decode prog_45_method_1_code 11 = .ok (.putfield 13, 3) := by decide +kernel
theorem own_d25_14 : decode prog_45_method_1_code 14 = .ok (.aload_n 0, 1) := by decide +kernel
theorem own_d25_15 : decode prog_45_method_1_code 15 = .ok (.iload_n 3, 1) := by decide +kernel
theorem own_d25_16 : decode prog_45_method_1_code 16 = .ok (.putfield 17, 3) := by decide +kernel
theorem own_d25_19 : decode prog_45_method_1_code 19 = .ok (.return_, 1) := by decide +kernel
theorem own_ef_25 (m : MethodId) (x0 : Addr) (x1 : Addr) (x2 : Int32) (x3 : Int32) : entryFrame m #[(.ref x0), (.ref x1), (.int x2), (.int x3)] 4 = mkF m 0 #[.val (.ref x0), .val (.ref x1), .val (.int x2), .val (.int x3)] [] := by first | (simp [entryFrame, mkF, argsToLocals, Value.category]; done) | rfl
def Q25 (Z : State) (r0 : Addr) (r1 : Addr) (p2 : Int32) (p3 : Int32) (h0 : Heap) (n0 : Nat) (v : Option Value) (h : Heap) (L : List Loc) : Prop := v = none ∧ Fr n0 L ∧ Keep h0 h [r0] ∧ Fld Z h r0 "com/example/liken/liken/core/TokenSlice" "all" "Ljava/util/List;" (.ref r1) ∧ Fld Z h r0 "com/example/liken/liken/core/TokenSlice" "from" "I" (.int p2) ∧ Fld Z h r0 "com/example/liken/liken/core/TokenSlice" "size" "I" (.int p3)
set_option maxRecDepth 65536 in
set_option maxHeartbeats 40000000 in
theorem rm25 (l : Launch) (Z : State) (a0 : Array Value) (hw : ∀ d ∈ tables_1, d.before a0 Z = true) (ws : List Jvm.Cond) (r0 : Addr) (r1 : Addr) (p2 : Int32) (p3 : Int32) (h0 : Heap) (n0 : Nat) (Z0 : n0 ≤ h0.size) (E0 : Exa Z h0 r0 "com/example/liken/liken/core/TokenSlice") (g0 : n0 ≤ r0) (F_r0_modCount : Fld Z h0 r0 "java/util/AbstractList" "modCount" "I" (.int (0 : Int32))) (F_r0_all : Fld Z h0 r0 "com/example/liken/liken/core/TokenSlice" "all" "Ljava/util/List;" .null) (F_r0_from : Fld Z h0 r0 "com/example/liken/liken/core/TokenSlice" "from" "I" (.int (0 : Int32))) (F_r0_size : Fld Z h0 r0 "com/example/liken/liken/core/TokenSlice" "size" "I" (.int (0 : Int32))) :
    MetFree l (⟨"com/example/liken/liken/core/TokenSlice", "<init>", "(Ljava/util/List;II)V"⟩ : MethodName) (head1 (Jvm.Cond.code (⟨"com/example/liken/liken/core/TokenSlice", "<init>", "(Ljava/util/List;II)V"⟩ : MethodName) prog_45_method_1_code 4 none :: ws) ({ frames := 3, cells := 0, slots := 0, locals := 36 } : Room)) (fun a U => a = #[(.ref r0), (.ref r1), (.int p2), (.int p3)] ∧ Z.Warmed39 U.vm ∧ U.heap = h0) (fun _ _ _ _ _ => True) (fun _ U o U' => ∃ v L, o = .returned v ∧ Q25 Z r0 r1 p2 p3 h0 n0 v U'.heap L ∧ FrameEnd U o U' L ({ frames := 3, cells := 0, slots := 0, locals := 36 } : Room).cells ({ frames := 3, cells := 0, slots := 0, locals := 36 } : Room).slots) := by
  refine MetFree.of_bodySF (plainFor_of_name own_pn12) hisR ?_
  intro p e s m args below meth c s₁ Bd hml0 hP hK
  obtain ⟨rfl, hZ, hh⟩ := hP
  have hx := Bd.exec
  have hby := Bd.bytes
  have hml : c.maxLocals = 4 := hml0
  have hown : s.vm.findClass "com/example/liken/liken/core/TokenSlice" = some m.cls := findClass_of_methodNamed Bd.named
  have hnm := (name_of_methodNamed Bd.named Bd.method).1
  have X0 : Stand p l e ({ frames := 3, cells := 0, slots := 0, locals := 36 } : Room) s m #[(.ref r0), (.ref r1), (.int p2), (.int p3)] below meth c s₁ [] 0 0 := Stand.of_body Bd
  have e0 : s₁.heap = h0 := by rw [← hh, Bd.state]; rfl
  have N0 := Fr.nil n0
  have KR : Keep h0 h0 [r0] := Keep.refl h0 _
  show Good p e below (fun o U' => ∃ v L, o = .returned v ∧ Q25 Z r0 r1 p2 p3 h0 n0 v U'.heap L ∧ FrameEnd s o U' L ({ frames := 3, cells := 0, slots := 0, locals := 36 } : Room).cells ({ frames := 3, cells := 0, slots := 0, locals := 36 } : Room).slots) _
  refine Good.back (S' := s₁.setTop (mkF m 0 #[.val (.ref r0), .val (.ref r1), .val (.int p2), .val (.int p3)] [])) (fun t k => castTop (own_ef_25 m r0 r1 p2 p3) k) ?_
  show Good p e below _ (s₁.setTop (mkF m 0 #[.val (.ref r0), .val (.ref r1), .val (.int p2), .val (.int p3)] []))
  refine Good.back (fun _ k => XS.aloadN X0.here hx rfl (hb hby own_d25_0) rfl rfl k) ?_
  obtain ⟨_, _, ⟨T1, L1, k1, n1⟩, -, X1, ⟨Lc1, hQ1, l1, y1, z1⟩, st1⟩ := X0.specialBack hx (y := (⟨"java/util/AbstractList", "<init>", "()V"⟩ : MethodName)) rfl hown (mvT hZ (hw _ (own_m 157 rfl))) (mvT hZ (hw _ (own_m 87 rfl))) (mvT hZ (hw _ (own_m 91 rfl))) (by decide) (backOf (W := 0) (rm16T l Z a0 hw [] r0  h0 n0 Z0 E0 g0 F_r0_modCount F_r0_all F_r0_from F_r0_size) hZ (hw _ (own_m 91 rfl)) (hw _ (own_m 90 rfl)) (by decide) (by decide)) (g := (mkF m 1 #[.val (.ref r0), .val (.ref r1), .val (.int p2), .val (.int p3)] [(.ref r0)])) rfl (by rw [hml]; rfl) (Steps.refl _) (a := r0) (argsL := []) (rest := []) (lenOf own_pd122 rfl) rfl (by show 2 * 0 + _ ≤ _; exact Nat.le_of_eq rfl) (hb hby own_d25_1) (fun _ _ => ⟨rfl, e0, (by decide : 0 + 0 ≤ _), (by decide : 0 + 0 ≤ _)⟩)
  dsimp only [Pt.U, Pt.locs, Pt.cells, Pt.slots] at X1 l1 y1 z1 st1 hQ1
  subst l1 y1 z1
  obtain ⟨rfl, N1q, Kq1, o1_0, o1_1, o1_2, o1_3⟩ := hQ1
  have N1 := Fr.app N0 N1q
  have Z2 : n0 ≤ T1.heap.size := Nat.le_trans Z0 Kq1.1
  have K3 : Keep h0 T1.heap [r0] := KR.trans Kq1 (allS (Or.inl (List.mem_of_getElem? (i := 0) rfl)) all0)
  refine Good.back (fun _ k => st1.trans k) ?_
  refine Good.back (fun _ k => XS.aloadN X1.here hx rfl (hb hby own_d25_4) rfl rfl k) ?_
  refine Good.back (fun _ k => XS.aloadN X1.here hx rfl (hb hby own_d25_5) rfl rfl k) ?_
  have f_4 : Exa Z T1.heap r0 "com/example/liken/liken/core/TokenSlice" := Exa.keep E0 Kq1
  obtain ⟨T5, h5, X5, e5, W5, st5⟩ := putF X1 hx hZ hown (host := "") (Or.inl (hw _ (own_m 160 rfl))) Via.refl rfl o1_1 f_4 (Or.inr ⟨(hw _ (own_m 161 rfl)), rfl, hnm⟩) (hw _ (own_m 141 rfl)) (ty := (.object "java/util/List")) (by decide) rfl rfl (g := (mkF m 6 #[.val (.ref r0), .val (.ref r1), .val (.int p2), .val (.int p3)] [(.ref r1), (.ref r0)])) rfl rfl (hb hby own_d25_6)
  refine Good.back st5 ?_
  have f_6 : Fld Z h5 r0 "com/example/liken/liken/core/TokenSlice" "all" "Ljava/util/List;" (.ref r1) := Fld.same W5 o1_1
  have N5 := Fr.snoc X5 N1 g0
  have Z7 : n0 ≤ h5.size := Nat.le_trans Z2 (Keep.of_wr W5).1
  have K8 : Keep h0 h5 [r0] := K3.wr W5 (Or.inl (List.mem_of_getElem? (i := 0) rfl))
  refine Good.back (fun _ k => XS.aloadN X5.here hx rfl (hb hby own_d25_9) rfl rfl k) ?_
  refine Good.back (fun _ k => XS.iloadN X5.here hx rfl (hb hby own_d25_10) rfl k) ?_
  have f_9 : Fld Z h5 r0 "com/example/liken/liken/core/TokenSlice" "from" "I" (.int (0 : Int32)) := Fld.other W5 o1_2 (Or.inr (slot_ne (Or.inr (hw _ (own_m 163 rfl))) (Or.inr (hw _ (own_m 161 rfl))) (by decide) (t := .int) (t' := (.object "java/util/List")) (by decide) (by decide)))
  have f_10 : Exa Z h5 r0 "com/example/liken/liken/core/TokenSlice" := Exa.wr W5 f_4
  obtain ⟨T11, h11, X11, e11, W11, st11⟩ := putF X5 hx hZ hown (host := "") (Or.inl (hw _ (own_m 162 rfl))) Via.refl e5 f_9 f_10 (Or.inr ⟨(hw _ (own_m 163 rfl)), rfl, hnm⟩) (hw _ (own_m 141 rfl)) (ty := .int) (by decide) rfl rfl (g := (mkF m 11 #[.val (.ref r0), .val (.ref r1), .val (.int p2), .val (.int p3)] [(.int p2), (.ref r0)])) rfl rfl (hb hby own_d25_11)
  refine Good.back st11 ?_
  have f_12 : Fld Z h11 r0 "com/example/liken/liken/core/TokenSlice" "from" "I" (.int p2) := Fld.same W11 f_9
  have N11 := Fr.snoc X11 N5 g0
  have Z13 : n0 ≤ h11.size := Nat.le_trans Z7 (Keep.of_wr W11).1
  have K14 : Keep h0 h11 [r0] := K8.wr W11 (Or.inl (List.mem_of_getElem? (i := 0) rfl))
  refine Good.back (fun _ k => XS.aloadN X11.here hx rfl (hb hby own_d25_14) rfl rfl k) ?_
  refine Good.back (fun _ k => XS.iloadN X11.here hx rfl (hb hby own_d25_15) rfl k) ?_
  have f_15 : Fld Z h5 r0 "com/example/liken/liken/core/TokenSlice" "size" "I" (.int (0 : Int32)) := Fld.other W5 o1_3 (Or.inr (slot_ne (Or.inr (hw _ (own_m 165 rfl))) (Or.inr (hw _ (own_m 161 rfl))) (by decide) (t := .int) (t' := (.object "java/util/List")) (by decide) (by decide)))
  have f_16 : Fld Z h11 r0 "com/example/liken/liken/core/TokenSlice" "size" "I" (.int (0 : Int32)) := Fld.other W11 f_15 (Or.inr (slot_ne (Or.inr (hw _ (own_m 165 rfl))) (Or.inr (hw _ (own_m 163 rfl))) (by decide) (t := .int) (t' := .int) (by decide) (by decide)))
  have f_17 : Exa Z h11 r0 "com/example/liken/liken/core/TokenSlice" := Exa.wr W11 f_10
  obtain ⟨T18, h18, X18, e18, W18, st18⟩ := putF X11 hx hZ hown (host := "") (Or.inl (hw _ (own_m 164 rfl))) Via.refl e11 f_16 f_17 (Or.inr ⟨(hw _ (own_m 165 rfl)), rfl, hnm⟩) (hw _ (own_m 141 rfl)) (ty := .int) (by decide) rfl rfl (g := (mkF m 16 #[.val (.ref r0), .val (.ref r1), .val (.int p2), .val (.int p3)] [(.int p3), (.ref r0)])) rfl rfl (hb hby own_d25_16)
  refine Good.back st18 ?_
  have f_19 : Fld Z h18 r0 "com/example/liken/liken/core/TokenSlice" "size" "I" (.int p3) := Fld.same W18 f_16
  have N18 := Fr.snoc X18 N11 g0
  have Z20 : n0 ≤ h18.size := Nat.le_trans Z13 (Keep.of_wr W18).1
  have K21 : Keep h0 h18 [r0] := K14.wr W18 (Or.inl (List.mem_of_getElem? (i := 0) rfl))
  show Good p e below _ (T18.setTop (mkF m 19 #[.val (.ref r0), .val (.ref r1), .val (.int p2), .val (.int p3)] []))
  obtain ⟨fs22, hr22, hrun22, hended22, hW22, hsame22⟩ := X18.leave (v := none) (fun _ => rfl)
  refine Good.done (X18.returnOut hx Bd.returns (hb hby own_d25_19) hr22) hrun22 hended22 ⟨_, _, rfl, ?_, ⟨_, rfl⟩, hW22, hsame22.mono (by decide) (by decide)⟩
  show Q25 Z r0 r1 p2 p3 h0 n0 _ T18.heap _
  rw [e18]
  have f_23 : Fld Z h11 r0 "com/example/liken/liken/core/TokenSlice" "all" "Ljava/util/List;" (.ref r1) := Fld.other W11 f_6 (Or.inr (slot_ne (Or.inr (hw _ (own_m 161 rfl))) (Or.inr (hw _ (own_m 163 rfl))) (by decide) (t := (.object "java/util/List")) (t' := .int) (by decide) (by decide)))
  have f_24 : Fld Z h18 r0 "com/example/liken/liken/core/TokenSlice" "all" "Ljava/util/List;" (.ref r1) := Fld.other W18 f_23 (Or.inr (slot_ne (Or.inr (hw _ (own_m 161 rfl))) (Or.inr (hw _ (own_m 165 rfl))) (by decide) (t := (.object "java/util/List")) (t' := .int) (by decide) (by decide)))
  have f_25 : Fld Z h18 r0 "com/example/liken/liken/core/TokenSlice" "from" "I" (.int p2) := Fld.other W18 f_12 (Or.inr (slot_ne (Or.inr (hw _ (own_m 163 rfl))) (Or.inr (hw _ (own_m 165 rfl))) (by decide) (t := .int) (t' := .int) (by decide) (by decide)))
  exact ⟨rfl, N18, K21, f_24, f_25, f_19⟩
theorem own_pn13 : plainName "jdk/internal/util/Preconditions" = true := by first | (simp [plainName, overriddenIn]; done) | decide +kernel
theorem own_d28_0 : decode jdk_41_method_12_code 0 = .ok (.iload_n 0, 1) := by decide +kernel
theorem own_d28_1 : decode jdk_41_method_12_code 1 = .ok (.ifCond .lt 13, 3) := by decide +kernel
theorem own_d28_4 : decode jdk_41_method_12_code 4 = .ok (.iload_n 0, 1) := by decide +kernel
theorem own_d28_5 : decode jdk_41_method_12_code 5 = .ok (.iload_n 1, 1) := by decide +kernel
theorem own_d28_6 : decode jdk_41_method_12_code 6 = .ok (.if_icmp .gt 8, 3) := by decide +kernel
theorem own_d28_9 : decode jdk_41_method_12_code 9 = .ok (.iload_n 1, 1) := by decide +kernel
theorem own_d28_10 : decode jdk_41_method_12_code 10 = .ok (.iload_n 2, 1) := by decide +kernel
theorem own_d28_11 : decode jdk_41_method_12_code 11 = .ok (.if_icmp .le 11, 3) := by decide +kernel
theorem own_d28_22 : decode jdk_41_method_12_code 22 = .ok (.iload_n 0, 1) := by decide +kernel
theorem own_d28_23 : decode jdk_41_method_12_code 23 = .ok (.ireturn, 1) := by decide +kernel
theorem own_ef_28 (m : MethodId) (x0 : Int32) (x1 : Int32) (x2 : Int32) : entryFrame m #[(.int x0), (.int x1), (.int x2), .null] 4 = mkF m 0 #[.val (.int x0), .val (.int x1), .val (.int x2), .val .null] [] := by first | (simp [entryFrame, mkF, argsToLocals, Value.category]; done) | rfl
def Q28 (Z : State) (p0 : Int32) (p1 : Int32) (p2 : Int32) (h0 : Heap) (n0 : Nat) (v : Option Value) (h : Heap) (L : List Loc) : Prop := v = some (.int p0) ∧ Fr n0 L ∧ h = h0
set_option maxRecDepth 65536 in
set_option maxHeartbeats 40000000 in
theorem rm28 (l : Launch) (Z : State) (a0 : Array Value) (hw : ∀ d ∈ tables_1, d.before a0 Z = true) (ws : List Jvm.Cond) (p0 : Int32) (p1 : Int32) (p2 : Int32) (h0 : Heap) (n0 : Nat) (Z0 : n0 ≤ h0.size) (c1 : ¬ (p0 < (0 : Int32))) (c2 : ¬ (p1 < p0)) (c3 : ¬ (p2 < p1)) :
    MetFree l (⟨"jdk/internal/util/Preconditions", "checkFromToIndex", "(IIILjava/util/function/BiFunction;)I"⟩ : MethodName) (head1 (Jvm.Cond.code (⟨"jdk/internal/util/Preconditions", "checkFromToIndex", "(IIILjava/util/function/BiFunction;)I"⟩ : MethodName) jdk_41_method_12_code 4 (some .int) :: ws) ({ frames := 0, cells := 0, slots := 0, locals := 0 } : Room)) (fun a U => a = #[(.int p0), (.int p1), (.int p2), .null] ∧ Z.Warmed39 U.vm ∧ U.heap = h0) (fun _ _ _ _ _ => True) (fun _ U o U' => ∃ v L, o = .returned v ∧ Q28 Z p0 p1 p2 h0 n0 v U'.heap L ∧ FrameEnd U o U' L ({ frames := 0, cells := 0, slots := 0, locals := 0 } : Room).cells ({ frames := 0, cells := 0, slots := 0, locals := 0 } : Room).slots) := by
  refine MetFree.of_bodySF (plainFor_of_name own_pn13) hisR ?_
  intro p e s m args below meth c s₁ Bd hml0 hP hK
  obtain ⟨rfl, hZ, hh⟩ := hP
  have hx := Bd.exec
  have hby := Bd.bytes
  have hml : c.maxLocals = 4 := hml0
  have hown : s.vm.findClass "jdk/internal/util/Preconditions" = some m.cls := findClass_of_methodNamed Bd.named
  have hnm := (name_of_methodNamed Bd.named Bd.method).1
  have X0 : Stand p l e ({ frames := 0, cells := 0, slots := 0, locals := 0 } : Room) s m #[(.int p0), (.int p1), (.int p2), .null] below meth c s₁ [] 0 0 := Stand.of_body Bd
  have e0 : s₁.heap = h0 := by rw [← hh, Bd.state]; rfl
  have N0 := Fr.nil n0
  show Good p e below (fun o U' => ∃ v L, o = .returned v ∧ Q28 Z p0 p1 p2 h0 n0 v U'.heap L ∧ FrameEnd s o U' L ({ frames := 0, cells := 0, slots := 0, locals := 0 } : Room).cells ({ frames := 0, cells := 0, slots := 0, locals := 0 } : Room).slots) _
  refine Good.back (S' := s₁.setTop (mkF m 0 #[.val (.int p0), .val (.int p1), .val (.int p2), .val .null] [])) (fun t k => castTop (own_ef_28 m p0 p1 p2) k) ?_
  show Good p e below _ (s₁.setTop (mkF m 0 #[.val (.int p0), .val (.int p1), .val (.int p2), .val .null] []))
  refine Good.back (fun _ k => XS.iloadN X0.here hx rfl (hb hby own_d28_0) rfl k) ?_
  show Good p e below _ (s₁.setTop (mkF m 1 #[.val (.int p0), .val (.int p1), .val (.int p2), .val .null] [(.int p0)]))
  refine Good.back (fun _ k => XS.ifNo X0.here hx rfl (hb hby own_d28_1) rfl ((if0 _ _).trans (flt c1).1) k) ?_
  show Good p e below _ (s₁.setTop (mkF m 4 #[.val (.int p0), .val (.int p1), .val (.int p2), .val .null] []))
  refine Good.back (fun _ k => XS.iloadN X0.here hx rfl (hb hby own_d28_4) rfl k) ?_
  refine Good.back (fun _ k => XS.iloadN X0.here hx rfl (hb hby own_d28_5) rfl k) ?_
  show Good p e below _ (s₁.setTop (mkF m 6 #[.val (.int p0), .val (.int p1), .val (.int p2), .val .null] [(.int p1), (.int p0)]))
  refine Good.back (fun _ k => XS.icmpNo X0.here hx rfl (hb hby own_d28_6) rfl (flt c2).2.2.1 k) ?_
  show Good p e below _ (s₁.setTop (mkF m 9 #[.val (.int p0), .val (.int p1), .val (.int p2), .val .null] []))
  refine Good.back (fun _ k => XS.iloadN X0.here hx rfl (hb hby own_d28_9) rfl k) ?_
  refine Good.back (fun _ k => XS.iloadN X0.here hx rfl (hb hby own_d28_10) rfl k) ?_
  show Good p e below _ (s₁.setTop (mkF m 11 #[.val (.int p0), .val (.int p1), .val (.int p2), .val .null] [(.int p2), (.int p1)]))
  refine Good.back (fun _ k => XS.icmpYes X0.here hx rfl (pc0 := 11) (pc' := 22) rfl (hb hby own_d28_11) rfl (flt c3).2.2.2 (by decide) (by decide) k) ?_
  show Good p e below _ (s₁.setTop (mkF m 22 #[.val (.int p0), .val (.int p1), .val (.int p2), .val .null] []))
  refine Good.back (fun _ k => XS.iloadN X0.here hx rfl (hb hby own_d28_22) rfl k) ?_
  show Good p e below _ (s₁.setTop (mkF m 23 #[.val (.int p0), .val (.int p1), .val (.int p2), .val .null] [(.int p0)]))
  obtain ⟨fs1, hr1, hrun1, hended1, hW1, hsame1⟩ := X0.leave (v := some (.int p0)) (fun h => by rw [Bd.returns] at h; cases h)
  refine Good.done (retI X0 hx Bd.returns (hb hby own_d28_23) hr1) hrun1 hended1 ⟨_, _, rfl, ?_, ⟨_, rfl⟩, hW1, hsame1.mono (by decide) (by decide)⟩
  show Q28 Z p0 p1 p2 h0 n0 _ s₁.heap _
  rw [e0]
  exact ⟨rfl, N0, rfl⟩
theorem own_pd343 : parseMethodDescriptor "(IIILjava/util/function/BiFunction;)I" = some ⟨[.int, .int, .int, (.object "java/util/function/BiFunction")], some .int⟩ := by decide +kernel
theorem own_d27_0 : decode jdk_31_method_18_code 0 = .ok (.iload_n 0, 1) := by decide +kernel
theorem own_d27_1 : decode jdk_31_method_18_code 1 = .ok (.iload_n 1, 1) := by decide +kernel
theorem own_d27_2 : decode jdk_31_method_18_code 2 = .ok (.iload_n 2, 1) := by decide +kernel
theorem own_d27_3 : decode jdk_31_method_18_code 3 = .ok (.aconst_null, 1) := by decide +kernel
theorem own_d27_4 : decode jdk_31_method_18_code 4 = .ok (.invokestatic 111, 3) := by decide +kernel
theorem own_d27_7 : decode jdk_31_method_18_code 7 = .ok (.ireturn, 1) := by decide +kernel
theorem own_ef_27 (m : MethodId) (x0 : Int32) (x1 : Int32) (x2 : Int32) : entryFrame m #[(.int x0), (.int x1), (.int x2)] 3 = mkF m 0 #[.val (.int x0), .val (.int x1), .val (.int x2)] [] := by first | (simp [entryFrame, mkF, argsToLocals, Value.category]; done) | rfl
def Q27 (Z : State) (p0 : Int32) (p1 : Int32) (p2 : Int32) (h0 : Heap) (n0 : Nat) (v : Option Value) (h : Heap) (L : List Loc) : Prop := v = some (.int p0) ∧ Fr n0 L ∧ h = h0
set_option maxRecDepth 65536 in
set_option maxHeartbeats 40000000 in
theorem rm27 (l : Launch) (Z : State) (a0 : Array Value) (hw : ∀ d ∈ tables_1, d.before a0 Z = true) (ws : List Jvm.Cond) (p0 : Int32) (p1 : Int32) (p2 : Int32) (h0 : Heap) (n0 : Nat) (Z0 : n0 ≤ h0.size) (c1 : ¬ (p0 < (0 : Int32))) (c2 : ¬ (p1 < p0)) (c3 : ¬ (p2 < p1)) :
    MetFree l (⟨"java/util/Objects", "checkFromToIndex", "(III)I"⟩ : MethodName) (head1 (Jvm.Cond.code (⟨"java/util/Objects", "checkFromToIndex", "(III)I"⟩ : MethodName) jdk_31_method_18_code 3 (some .int) :: ws) ({ frames := 1, cells := 0, slots := 0, locals := 15 } : Room)) (fun a U => a = #[(.int p0), (.int p1), (.int p2)] ∧ Z.Warmed39 U.vm ∧ U.heap = h0) (fun _ _ _ _ _ => True) (fun _ U o U' => ∃ v L, o = .returned v ∧ Q27 Z p0 p1 p2 h0 n0 v U'.heap L ∧ FrameEnd U o U' L ({ frames := 1, cells := 0, slots := 0, locals := 15 } : Room).cells ({ frames := 1, cells := 0, slots := 0, locals := 15 } : Room).slots) := by
  refine MetFree.of_bodySF (plainFor_of_name own_pn7) hisR ?_
  intro p e s m args below meth c s₁ Bd hml0 hP hK
  obtain ⟨rfl, hZ, hh⟩ := hP
  have hx := Bd.exec
  have hby := Bd.bytes
  have hml : c.maxLocals = 3 := hml0
  have hown : s.vm.findClass "java/util/Objects" = some m.cls := findClass_of_methodNamed Bd.named
  have hnm := (name_of_methodNamed Bd.named Bd.method).1
  have X0 : Stand p l e ({ frames := 1, cells := 0, slots := 0, locals := 15 } : Room) s m #[(.int p0), (.int p1), (.int p2)] below meth c s₁ [] 0 0 := Stand.of_body Bd
  have e0 : s₁.heap = h0 := by rw [← hh, Bd.state]; rfl
  have N0 := Fr.nil n0
  show Good p e below (fun o U' => ∃ v L, o = .returned v ∧ Q27 Z p0 p1 p2 h0 n0 v U'.heap L ∧ FrameEnd s o U' L ({ frames := 1, cells := 0, slots := 0, locals := 15 } : Room).cells ({ frames := 1, cells := 0, slots := 0, locals := 15 } : Room).slots) _
  refine Good.back (S' := s₁.setTop (mkF m 0 #[.val (.int p0), .val (.int p1), .val (.int p2)] [])) (fun t k => castTop (own_ef_27 m p0 p1 p2) k) ?_
  show Good p e below _ (s₁.setTop (mkF m 0 #[.val (.int p0), .val (.int p1), .val (.int p2)] []))
  refine Good.back (fun _ k => XS.iloadN X0.here hx rfl (hb hby own_d27_0) rfl k) ?_
  refine Good.back (fun _ k => XS.iloadN X0.here hx rfl (hb hby own_d27_1) rfl k) ?_
  refine Good.back (fun _ k => XS.iloadN X0.here hx rfl (hb hby own_d27_2) rfl k) ?_
  refine Good.back (fun _ k => XS.aconstNull X0.here hx rfl (hb hby own_d27_3) k) ?_
  obtain ⟨_, _, ⟨T1, L1, k1, n1⟩, -, X1, ⟨Lc1, hQ1, l1, y1, z1⟩, st1⟩ := Jvm.LawKit.callS X0 hx (y := (⟨"jdk/internal/util/Preconditions", "checkFromToIndex", "(IIILjava/util/function/BiFunction;)I"⟩ : MethodName)) hown (mvT hZ (hw _ (own_m 176 rfl))) (mvT hZ (hw _ (own_m 177 rfl))) (mvT hZ (hw _ (own_m 178 rfl))) (mvT hZ (hw _ (own_m 179 rfl))) (by decide) (backOf (W := 0) (rm28 l Z a0 hw [] p0 p1 p2  h0 n0 Z0 (by first | assumption | decide) (by first | assumption | decide) (by first | assumption | decide)) hZ (hw _ (own_m 179 rfl)) (hw _ (own_m 178 rfl)) (by decide) (by decide)) (g := (mkF m 4 #[.val (.int p0), .val (.int p1), .val (.int p2)] [.null, (.int p2), (.int p1), (.int p0)])) rfl (by rw [hml]; rfl) (argsL := [(.int p0), (.int p1), (.int p2), .null]) (rest := []) (lenOf own_pd343 rfl) rfl (by show 2 * 0 + _ ≤ _; exact Nat.le_of_eq rfl) (hb hby own_d27_4) (fun _ _ => ⟨rfl, e0, (by decide : 0 + 0 ≤ _), (by decide : 0 + 0 ≤ _)⟩)
  dsimp only [Pt.U, Pt.locs, Pt.cells, Pt.slots] at X1 l1 y1 z1 st1 hQ1
  subst l1 y1 z1
  obtain ⟨rfl, N1q, eh1⟩ := hQ1
  have N1 := Fr.app N0 N1q
  refine Good.back st1 ?_
  show Good p e below _ (T1.setTop (mkF m 7 #[.val (.int p0), .val (.int p1), .val (.int p2)] [(.int p0)]))
  obtain ⟨fs2, hr2, hrun2, hended2, hW2, hsame2⟩ := X1.leave (v := some (.int p0)) (fun h => by rw [Bd.returns] at h; cases h)
  refine Good.done (retI X1 hx Bd.returns (hb hby own_d27_7) hr2) hrun2 hended2 ⟨_, _, rfl, ?_, ⟨_, rfl⟩, hW2, hsame2.mono (by decide) (by decide)⟩
  show Q27 Z p0 p1 p2 h0 n0 _ T1.heap _
  rw [eh1]
  exact ⟨rfl, N1, rfl⟩
theorem own_pd350 : parseMethodDescriptor "(III)I" = some ⟨[.int, .int, .int], some .int⟩ := by decide +kernel
theorem own_pd351 : parseMethodDescriptor "(Ljava/util/List;II)V" = some ⟨[(.object "java/util/List"), .int, .int], none⟩ := by decide +kernel
theorem own_d26_0 : decode prog_45_method_7_code 0 = .ok (.iload_n 1, 1) := by decide +kernel
theorem own_d26_1 : decode prog_45_method_7_code 1 = .ok (.iload_n 2, 1) := by decide +kernel
theorem own_d26_2 : decode prog_45_method_7_code 2 = .ok (.aload_n 0, 1) := by decide +kernel
theorem own_d26_3 : decode prog_45_method_7_code 3 = .ok (.getfield 17, 3) := by decide +kernel
theorem own_d26_6 : decode prog_45_method_7_code 6 = .ok (.invokestatic 44, 3) := by decide +kernel
theorem own_d26_9 : decode prog_45_method_7_code 9 = .ok (.pop, 1) := by decide +kernel
theorem own_d26_10 : decode prog_45_method_7_code 10 = .ok (.new 8, 3) := by decide +kernel
theorem own_d26_13 : decode prog_45_method_7_code 13 = .ok (.dup, 1) := by decide +kernel
theorem own_d26_14 : decode prog_45_method_7_code 14 = .ok (.aload_n 0, 1) := by decide +kernel
theorem own_d26_15 : decode prog_45_method_7_code 15 = .ok (.getfield 7, 3) := by decide +kernel
theorem own_d26_18 : decode prog_45_method_7_code 18 = .ok (.aload_n 0, 1) := by decide +kernel
theorem own_d26_19 : decode prog_45_method_7_code 19 = .ok (.getfield 13, 3) := by decide +kernel
theorem own_d26_22 : decode prog_45_method_7_code 22 = .ok (.iload_n 1, 1) := by decide +kernel
theorem own_d26_23 : decode prog_45_method_7_code 23 = .ok (.iadd, 1) := by decide +kernel
theorem own_d26_24 : decode prog_45_method_7_code 24 = .ok (.iload_n 2, 1) := by decide +kernel
theorem own_d26_25 : decode prog_45_method_7_code 25 = .ok (.iload_n 1, 1) := by decide +kernel
theorem own_d26_26 : decode prog_45_method_7_code 26 = .ok (.isub, 1) := by decide +kernel
theorem own_d26_27 : decode prog_45_method_7_code 27 = .ok (.invokespecial 29, 3) := by decide +kernel
theorem own_d26_30 : decode prog_45_method_7_code 30 = .ok (.areturn, 1) := by decide +kernel
theorem own_ef_26 (m : MethodId) (x0 : Addr) (x1 : Int32) (x2 : Int32) : entryFrame m #[(.ref x0), (.int x1), (.int x2)] 3 = mkF m 0 #[.val (.ref x0), .val (.int x1), .val (.int x2)] [] := by first | (simp [entryFrame, mkF, argsToLocals, Value.category]; done) | rfl
def Q26 (Z : State) (r0 : Addr) (p1 : Int32) (p2 : Int32) (al : Addr) (f0 : Int32) (z0 : Int32) (h0 : Heap) (n0 : Nat) (v : Option Value) (h : Heap) (L : List Loc) : Prop := ∃ (ts : Addr), v = some (.ref ts) ∧ Fr n0 L ∧ Keep h0 h [] ∧ h0.size ≤ ts ∧ Exa Z h ts "com/example/liken/liken/core/TokenSlice" ∧ Fld Z h ts "com/example/liken/liken/core/TokenSlice" "all" "Ljava/util/List;" (.ref al) ∧ Fld Z h ts "com/example/liken/liken/core/TokenSlice" "from" "I" (.int (f0 + p1)) ∧ Fld Z h ts "com/example/liken/liken/core/TokenSlice" "size" "I" (.int (p2 - p1))
set_option maxRecDepth 65536 in
set_option maxHeartbeats 40000000 in
theorem rm26 (l : Launch) (Z : State) (a0 : Array Value) (hw : ∀ d ∈ tables_1, d.before a0 Z = true) (ws : List Jvm.Cond) (r0 : Addr) (p1 : Int32) (p2 : Int32) (al : Addr) (f0 : Int32) (z0 : Int32) (h0 : Heap) (n0 : Nat) (Z0 : n0 ≤ h0.size) (E0 : Exa Z h0 r0 "com/example/liken/liken/core/TokenSlice") (F_r0_all : Fld Z h0 r0 "com/example/liken/liken/core/TokenSlice" "all" "Ljava/util/List;" (.ref al)) (F_r0_from : Fld Z h0 r0 "com/example/liken/liken/core/TokenSlice" "from" "I" (.int f0)) (F_r0_size : Fld Z h0 r0 "com/example/liken/liken/core/TokenSlice" "size" "I" (.int z0)) (c1 : ¬ (p1 < (0 : Int32))) (c2 : ¬ (p2 < p1)) (c3 : ¬ (z0 < p2)) :
    MetFree l (⟨"com/example/liken/liken/core/TokenSlice", "subList", "(II)Lcom/example/liken/liken/core/TokenSlice;"⟩ : MethodName) (head1 (Jvm.Cond.code (⟨"com/example/liken/liken/core/TokenSlice", "subList", "(II)Lcom/example/liken/liken/core/TokenSlice;"⟩ : MethodName) prog_45_method_7_code 3 (some (.object "com/example/liken/liken/core/TokenSlice")) :: ws) ({ frames := 4, cells := 1, slots := 4, locals := 52 } : Room)) (fun a U => a = #[(.ref r0), (.int p1), (.int p2)] ∧ Z.Warmed39 U.vm ∧ U.heap = h0) (fun _ _ _ _ _ => True) (fun _ U o U' => ∃ v L, o = .returned v ∧ Q26 Z r0 p1 p2 al f0 z0 h0 n0 v U'.heap L ∧ FrameEnd U o U' L ({ frames := 4, cells := 1, slots := 4, locals := 52 } : Room).cells ({ frames := 4, cells := 1, slots := 4, locals := 52 } : Room).slots) := by
  refine MetFree.of_bodySF (plainFor_of_name own_pn12) hisR ?_
  intro p e s m args below meth c s₁ Bd hml0 hP hK
  obtain ⟨rfl, hZ, hh⟩ := hP
  have hx := Bd.exec
  have hby := Bd.bytes
  have hml : c.maxLocals = 3 := hml0
  have hown : s.vm.findClass "com/example/liken/liken/core/TokenSlice" = some m.cls := findClass_of_methodNamed Bd.named
  have hnm := (name_of_methodNamed Bd.named Bd.method).1
  have X0 : Stand p l e ({ frames := 4, cells := 1, slots := 4, locals := 52 } : Room) s m #[(.ref r0), (.int p1), (.int p2)] below meth c s₁ [] 0 0 := Stand.of_body Bd
  have e0 : s₁.heap = h0 := by rw [← hh, Bd.state]; rfl
  have N0 := Fr.nil n0
  have KR : Keep h0 h0 [] := Keep.refl h0 _
  show Good p e below (fun o U' => ∃ v L, o = .returned v ∧ Q26 Z r0 p1 p2 al f0 z0 h0 n0 v U'.heap L ∧ FrameEnd s o U' L ({ frames := 4, cells := 1, slots := 4, locals := 52 } : Room).cells ({ frames := 4, cells := 1, slots := 4, locals := 52 } : Room).slots) _
  refine Good.back (S' := s₁.setTop (mkF m 0 #[.val (.ref r0), .val (.int p1), .val (.int p2)] [])) (fun t k => castTop (own_ef_26 m r0 p1 p2) k) ?_
  show Good p e below _ (s₁.setTop (mkF m 0 #[.val (.ref r0), .val (.int p1), .val (.int p2)] []))
  refine Good.back (fun _ k => XS.iloadN X0.here hx rfl (hb hby own_d26_0) rfl k) ?_
  refine Good.back (fun _ k => XS.iloadN X0.here hx rfl (hb hby own_d26_1) rfl k) ?_
  refine Good.back (fun _ k => XS.aloadN X0.here hx rfl (hb hby own_d26_2) rfl rfl k) ?_
  obtain ⟨T1, X1, e1, st1⟩ := getF X0 hx hZ hown (host := "") (Or.inl (hw _ (own_m 164 rfl))) Via.refl e0 F_r0_size (g := (mkF m 3 #[.val (.ref r0), .val (.int p1), .val (.int p2)] [(.ref r0), (.int p2), (.int p1)])) rfl rfl (hb hby own_d26_3)
  refine Good.back st1 ?_
  obtain ⟨_, _, ⟨T2, L2, k2, n2⟩, -, X2, ⟨Lc2, hQ2, l2, y2, z2⟩, st2⟩ := Jvm.LawKit.callS X1 hx (y := (⟨"java/util/Objects", "checkFromToIndex", "(III)I"⟩ : MethodName)) hown (mvT hZ (hw _ (own_m 173 rfl))) (mvT hZ (hw _ (own_m 174 rfl))) (mvT hZ (hw _ (own_m 68 rfl))) (mvT hZ (hw _ (own_m 175 rfl))) (by decide) (backOf (W := 0) (rm27 l Z a0 hw [] p1 p2 z0  h0 n0 Z0 (by first | assumption | decide) (by first | assumption | decide) (by first | assumption | decide)) hZ (hw _ (own_m 175 rfl)) (hw _ (own_m 68 rfl)) (by decide) (by decide)) (g := (mkF m 6 #[.val (.ref r0), .val (.int p1), .val (.int p2)] [(.int z0), (.int p2), (.int p1)])) rfl (by rw [hml]; rfl) (argsL := [(.int p1), (.int p2), (.int z0)]) (rest := []) (lenOf own_pd350 rfl) rfl (by show 2 * 0 + _ ≤ _; exact Nat.le_of_eq rfl) (hb hby own_d26_6) (fun _ _ => ⟨rfl, e1, (by decide : 0 + 0 ≤ _), (by decide : 0 + 0 ≤ _)⟩)
  dsimp only [Pt.U, Pt.locs, Pt.cells, Pt.slots] at X2 l2 y2 z2 st2 hQ2
  subst l2 y2 z2
  obtain ⟨rfl, N2q, eh2⟩ := hQ2
  have N2 := Fr.app N0 N2q
  refine Good.back st2 ?_
  show Good p e below _ (T2.setTop (mkF m 9 #[.val (.ref r0), .val (.int p1), .val (.int p2)] [(.int p1)]))
  refine Good.back (fun _ k => XS.pop X2.here hx rfl (hb hby own_d26_9) rfl rfl k) ?_
  obtain ⟨T3, h3, X3, e3, E3, A3, D3, -, st3⟩ := newO X2 hx hZ hown (hw _ (own_m 108 rfl)) (hw _ (own_m 141 rfl)) (hw _ (own_m 106 rfl)) eh2 (g := (mkF m 10 #[.val (.ref r0), .val (.int p1), .val (.int p2)] [])) rfl (hb hby own_d26_10) (by decide) (by decide)
  obtain ⟨b3, g3⟩ : ∃ z, z = h0.size := ⟨_, rfl⟩
  rw [← g3] at A3 D3 st3
  refine Good.back st3 ?_
  have g_b3 : n0 ≤ b3 := Nat.le_trans Z0 (Nat.le_of_eq g3.symm)
  have sz_b3 : h0.size ≤ b3 := Nat.le_trans KR.1 (Nat.le_of_eq g3.symm)
  have Z4 : n0 ≤ h3.size := Nat.le_trans Z0 E3.1
  have K5 : Keep h0 h3 [] := KR.ext E3
  have f_6 : Exa Z h3 b3 "com/example/liken/liken/core/TokenSlice" := A3
  have f_7 : Fld Z h3 b3 "java/util/AbstractList" "modCount" "I" (.int (0 : Int32)) := D3 (Or.inl (hw _ (own_m 159 rfl))) (ty := .int) (by decide)
  have f_8 : Fld Z h3 b3 "com/example/liken/liken/core/TokenSlice" "all" "Ljava/util/List;" .null := D3 (Or.inr (hw _ (own_m 161 rfl))) (ty := (.object "java/util/List")) (by decide)
  have f_9 : Fld Z h3 b3 "com/example/liken/liken/core/TokenSlice" "from" "I" (.int (0 : Int32)) := D3 (Or.inr (hw _ (own_m 163 rfl))) (ty := .int) (by decide)
  have f_10 : Fld Z h3 b3 "com/example/liken/liken/core/TokenSlice" "size" "I" (.int (0 : Int32)) := D3 (Or.inr (hw _ (own_m 165 rfl))) (ty := .int) (by decide)
  refine Good.back (fun _ k => XS.dup X3.here hx rfl (hb hby own_d26_13) rfl rfl k) ?_
  refine Good.back (fun _ k => XS.aloadN X3.here hx rfl (hb hby own_d26_14) rfl rfl k) ?_
  have f_11 : Fld Z h3 r0 "com/example/liken/liken/core/TokenSlice" "all" "Ljava/util/List;" (.ref al) := Fld.ext E3 F_r0_all
  obtain ⟨T12, X12, e12, st12⟩ := getF X3 hx hZ hown (host := "") (Or.inl (hw _ (own_m 160 rfl))) Via.refl e3 f_11 (g := (mkF m 15 #[.val (.ref r0), .val (.int p1), .val (.int p2)] [(.ref r0), (.ref b3), (.ref b3)])) rfl rfl (hb hby own_d26_15)
  refine Good.back st12 ?_
  refine Good.back (fun _ k => XS.aloadN X12.here hx rfl (hb hby own_d26_18) rfl rfl k) ?_
  have f_13 : Fld Z h3 r0 "com/example/liken/liken/core/TokenSlice" "from" "I" (.int f0) := Fld.ext E3 F_r0_from
  obtain ⟨T14, X14, e14, st14⟩ := getF X12 hx hZ hown (host := "") (Or.inl (hw _ (own_m 162 rfl))) Via.refl e12 f_13 (g := (mkF m 19 #[.val (.ref r0), .val (.int p1), .val (.int p2)] [(.ref r0), (.ref al), (.ref b3), (.ref b3)])) rfl rfl (hb hby own_d26_19)
  refine Good.back st14 ?_
  refine Good.back (fun _ k => XS.iloadN X14.here hx rfl (hb hby own_d26_22) rfl k) ?_
  show Good p e below _ (T14.setTop (mkF m 23 #[.val (.ref r0), .val (.int p1), .val (.int p2)] [(.int p1), (.int f0), (.ref al), (.ref b3), (.ref b3)]))
  refine Good.back (fun _ k => XS.iadd X14.here hx rfl (hb hby own_d26_23) rfl k) ?_
  show Good p e below _ (T14.setTop (mkF m 24 #[.val (.ref r0), .val (.int p1), .val (.int p2)] [(.int (f0 + p1)), (.ref al), (.ref b3), (.ref b3)]))
  refine Good.back (fun _ k => XS.iloadN X14.here hx rfl (hb hby own_d26_24) rfl k) ?_
  refine Good.back (fun _ k => XS.iloadN X14.here hx rfl (hb hby own_d26_25) rfl k) ?_
  show Good p e below _ (T14.setTop (mkF m 26 #[.val (.ref r0), .val (.int p1), .val (.int p2)] [(.int p1), (.int p2), (.int (f0 + p1)), (.ref al), (.ref b3), (.ref b3)]))
  refine Good.back (fun _ k => XS.isub X14.here hx rfl (hb hby own_d26_26) rfl k) ?_
  show Good p e below _ (T14.setTop (mkF m 27 #[.val (.ref r0), .val (.int p1), .val (.int p2)] [(.int (p2 - p1)), (.int (f0 + p1)), (.ref al), (.ref b3), (.ref b3)]))
  obtain ⟨_, _, ⟨T15, L15, k15, n15⟩, -, X15, ⟨Lc15, hQ15, l15, y15, z15⟩, st15⟩ := X14.specialBack hx (y := (⟨"com/example/liken/liken/core/TokenSlice", "<init>", "(Ljava/util/List;II)V"⟩ : MethodName)) rfl hown (mvT hZ (hw _ (own_m 154 rfl))) (mvT hZ (hw _ (own_m 155 rfl))) (mvT hZ (hw _ (own_m 156 rfl))) (by decide) (backOf (W := 1) (rm25 l Z a0 hw [] b3 al (f0 + p1) (p2 - p1)  h3 n0 Z4 f_6 g_b3 f_7 f_8 f_9 f_10) hZ (hw _ (own_m 156 rfl)) (hw _ (own_m 106 rfl)) (by decide) (by decide)) (g := (mkF m 27 #[.val (.ref r0), .val (.int p1), .val (.int p2)] [(.int (p2 - p1)), (.int (f0 + p1)), (.ref al), (.ref b3), (.ref b3)])) rfl (by rw [hml]; rfl) (Steps.refl _) (a := b3) (argsL := [(.ref al), (.int (f0 + p1)), (.int (p2 - p1))]) (rest := [(.ref b3)]) (lenOf own_pd351 rfl) rfl (by show 2 * 0 + _ ≤ _; exact Nat.le_of_eq rfl) (hb hby own_d26_27) (fun _ _ => ⟨rfl, e14, (by decide : 1 + 0 ≤ _), (by decide : 4 + 0 ≤ _)⟩)
  dsimp only [Pt.U, Pt.locs, Pt.cells, Pt.slots] at X15 l15 y15 z15 st15 hQ15
  subst l15 y15 z15
  obtain ⟨rfl, N15q, Kq15, o15_0, o15_1, o15_2⟩ := hQ15
  have N15 := Fr.app N2 N15q
  have Z16 : n0 ≤ T15.heap.size := Nat.le_trans Z4 Kq15.1
  have K17 : Keep h0 T15.heap [] := K5.trans Kq15 (allS (Or.inr sz_b3) all0)
  refine Good.back (fun _ k => st15.trans k) ?_
  show Good p e below _ (T15.setTop (mkF m 30 #[.val (.ref r0), .val (.int p1), .val (.int p2)] [(.ref b3)]))
  obtain ⟨fs18, hr18, hrun18, hended18, hW18, hsame18⟩ := X15.leave (v := some (.ref b3)) (fun h => by rw [Bd.returns] at h; cases h)
  refine Good.done (retOut X15 hx Bd.returns rfl (Or.inr (Or.inr (Or.inr (Or.inr ⟨rfl, rfl, rfl⟩)))) (hb hby own_d26_30) hr18) hrun18 hended18 ⟨_, _, rfl, ?_, ⟨_, rfl⟩, hW18, hsame18.mono (by decide) (by decide)⟩
  show Q26 Z r0 p1 p2 al f0 z0 h0 n0 _ T15.heap _
  have f_19 : Exa Z T15.heap b3 "com/example/liken/liken/core/TokenSlice" := Exa.keep f_6 Kq15
  exact ⟨b3, rfl, N15, K17, sz_b3, f_19, o15_0, o15_1, o15_2⟩
theorem own_pn14 : plainName "java/util/List" = true := by first | (simp [plainName, overriddenIn]; done) | decide +kernel
theorem own_d23_0 : decode jdk_40_method_36_code 0 = .ok (.getstatic 90, 3) := by decide +kernel
theorem own_d23_3 : decode jdk_40_method_36_code 3 = .ok (.areturn, 1) := by decide +kernel
theorem own_ef_23 (m : MethodId)  : entryFrame m #[] 0 = mkF m 0 #[] [] := by first | (simp [entryFrame, mkF, argsToLocals, Value.category]; done) | rfl
def Q23 (Z : State) (el : Addr) (h0 : Heap) (n0 : Nat) (v : Option Value) (h : Heap) (L : List Loc) : Prop := v = some (.ref el) ∧ Fr n0 L ∧ h = h0
set_option maxRecDepth 65536 in
set_option maxHeartbeats 40000000 in
theorem rm23 (l : Launch) (Z : State) (a0 : Array Value) (hw : ∀ d ∈ tables_1, d.before a0 Z = true) (ws : List Jvm.Cond) (el : Addr) (h0 : Heap) (n0 : Nat) (Z0 : n0 ≤ h0.size) (S_el : Sta Z h0 "java/util/ImmutableCollections" "EMPTY_LIST" "Ljava/util/ImmutableCollections$ListN;" (.ref el)) :
    MetFree l (⟨"java/util/List", "of", "()Ljava/util/List;"⟩ : MethodName) (head1 (Jvm.Cond.code (⟨"java/util/List", "of", "()Ljava/util/List;"⟩ : MethodName) jdk_40_method_36_code 0 (some (.object "java/util/List")) :: ws) ({ frames := 0, cells := 0, slots := 0, locals := 0 } : Room)) (fun a U => a = #[] ∧ Z.Warmed39 U.vm ∧ U.heap = h0) (fun _ _ _ _ _ => True) (fun _ U o U' => ∃ v L, o = .returned v ∧ Q23 Z el h0 n0 v U'.heap L ∧ FrameEnd U o U' L ({ frames := 0, cells := 0, slots := 0, locals := 0 } : Room).cells ({ frames := 0, cells := 0, slots := 0, locals := 0 } : Room).slots) := by
  refine MetFree.of_bodySF (plainFor_of_name own_pn14) hisR ?_
  intro p e s m args below meth c s₁ Bd hml0 hP hK
  obtain ⟨rfl, hZ, hh⟩ := hP
  have hx := Bd.exec
  have hby := Bd.bytes
  have hml : c.maxLocals = 0 := hml0
  have hown : s.vm.findClass "java/util/List" = some m.cls := findClass_of_methodNamed Bd.named
  have hnm := (name_of_methodNamed Bd.named Bd.method).1
  have X0 : Stand p l e ({ frames := 0, cells := 0, slots := 0, locals := 0 } : Room) s m #[] below meth c s₁ [] 0 0 := Stand.of_body Bd
  have e0 : s₁.heap = h0 := by rw [← hh, Bd.state]; rfl
  have N0 := Fr.nil n0
  show Good p e below (fun o U' => ∃ v L, o = .returned v ∧ Q23 Z el h0 n0 v U'.heap L ∧ FrameEnd s o U' L ({ frames := 0, cells := 0, slots := 0, locals := 0 } : Room).cells ({ frames := 0, cells := 0, slots := 0, locals := 0 } : Room).slots) _
  refine Good.back (S' := s₁.setTop (mkF m 0 #[] [])) (fun t k => castTop (own_ef_23 m ) k) ?_
  show Good p e below _ (s₁.setTop (mkF m 0 #[] []))
  obtain ⟨T1, X1, e1, st1⟩ := getS2 X0 hx hZ hown (host := "") (Or.inl (hw _ (own_m 140 rfl))) Via.refl e0 S_el (g := (mkF m 0 #[] [])) rfl (hb hby own_d23_0)
  refine Good.back st1 ?_
  show Good p e below _ (T1.setTop (mkF m 3 #[] [(.ref el)]))
  obtain ⟨fs2, hr2, hrun2, hended2, hW2, hsame2⟩ := X1.leave (v := some (.ref el)) (fun h => by rw [Bd.returns] at h; cases h)
  refine Good.done (retOut X1 hx Bd.returns rfl (Or.inr (Or.inr (Or.inr (Or.inr ⟨rfl, rfl, rfl⟩)))) (hb hby own_d23_3) hr2) hrun2 hended2 ⟨_, _, rfl, ?_, ⟨_, rfl⟩, hW2, hsame2.mono (by decide) (by decide)⟩
  show Q23 Z el h0 n0 _ T1.heap _
  rw [e1]
  exact ⟨rfl, N0, rfl⟩
theorem own_d22_0 : decode jdk_38_method_9_code 0 = .ok (.aload_n 0, 1) := by decide +kernel
theorem own_d22_1 : decode jdk_38_method_9_code 1 = .ok (.getfield 48, 3) := by decide +kernel
theorem own_d22_4 : decode jdk_38_method_9_code 4 = .ok (.ifCond .ne 7, 3) := by decide +kernel
theorem own_d22_7 : decode jdk_38_method_9_code 7 = .ok (.iconst 1, 1) := by decide +kernel
theorem own_d22_8 : decode jdk_38_method_9_code 8 = .ok (.goto 4, 3) := by decide +kernel
theorem own_d22_12 : decode jdk_38_method_9_code 12 = .ok (.ireturn, 1) := by decide +kernel
theorem own_ef_22_0 (m : MethodId) (x0 : Addr) : entryFrame m #[(.ref x0)] 1 = mkF m 0 #[.val (.ref x0)] [] := by first | (simp [entryFrame, mkF, argsToLocals, Value.category]; done) | rfl
def Q22_0 (Z : State) (r0 : Addr) (h0 : Heap) (n0 : Nat) (v : Option Value) (h : Heap) (L : List Loc) : Prop := v = some (.int (1 : Int32)) ∧ Fr n0 L ∧ h = h0
set_option maxRecDepth 65536 in
set_option maxHeartbeats 40000000 in
theorem rm22_0 (l : Launch) (Z : State) (a0 : Array Value) (hw : ∀ d ∈ tables_1, d.before a0 Z = true) (ws : List Jvm.Cond) (r0 : Addr) (h0 : Heap) (n0 : Nat) (Z0 : n0 ≤ h0.size) (Fs : Fld Z h0 r0 "java/util/ArrayList" "size" "I" (.int (0 : Int32))) :
    MetFree l (⟨"java/util/ArrayList", "isEmpty", "()Z"⟩ : MethodName) (head1 (Jvm.Cond.code (⟨"java/util/ArrayList", "isEmpty", "()Z"⟩ : MethodName) jdk_38_method_9_code 1 (some .boolean) :: ws) ({ frames := 0, cells := 0, slots := 0, locals := 0 } : Room)) (fun a U => a = #[(.ref r0)] ∧ Z.Warmed39 U.vm ∧ U.heap = h0) (fun _ _ _ _ _ => True) (fun _ U o U' => ∃ v L, o = .returned v ∧ Q22_0 Z r0 h0 n0 v U'.heap L ∧ FrameEnd U o U' L ({ frames := 0, cells := 0, slots := 0, locals := 0 } : Room).cells ({ frames := 0, cells := 0, slots := 0, locals := 0 } : Room).slots) := by
  refine MetFree.of_bodySF (plainFor_of_name own_pn11) hisR ?_
  intro p e s m args below meth c s₁ Bd hml0 hP hK
  obtain ⟨rfl, hZ, hh⟩ := hP
  have hx := Bd.exec
  have hby := Bd.bytes
  have hml : c.maxLocals = 1 := hml0
  have hown : s.vm.findClass "java/util/ArrayList" = some m.cls := findClass_of_methodNamed Bd.named
  have hnm := (name_of_methodNamed Bd.named Bd.method).1
  have X0 : Stand p l e ({ frames := 0, cells := 0, slots := 0, locals := 0 } : Room) s m #[(.ref r0)] below meth c s₁ [] 0 0 := Stand.of_body Bd
  have e0 : s₁.heap = h0 := by rw [← hh, Bd.state]; rfl
  have N0 := Fr.nil n0
  show Good p e below (fun o U' => ∃ v L, o = .returned v ∧ Q22_0 Z r0 h0 n0 v U'.heap L ∧ FrameEnd s o U' L ({ frames := 0, cells := 0, slots := 0, locals := 0 } : Room).cells ({ frames := 0, cells := 0, slots := 0, locals := 0 } : Room).slots) _
  refine Good.back (S' := s₁.setTop (mkF m 0 #[.val (.ref r0)] [])) (fun t k => castTop (own_ef_22_0 m r0) k) ?_
  show Good p e below _ (s₁.setTop (mkF m 0 #[.val (.ref r0)] []))
  refine Good.back (fun _ k => XS.aloadN X0.here hx rfl (hb hby own_d22_0) rfl rfl k) ?_
  obtain ⟨T1, X1, e1, st1⟩ := getF X0 hx hZ hown (host := "") (Or.inl (hw _ (own_m 135 rfl))) Via.refl e0 Fs (g := (mkF m 1 #[.val (.ref r0)] [(.ref r0)])) rfl rfl (hb hby own_d22_1)
  refine Good.back st1 ?_
  show Good p e below _ (T1.setTop (mkF m 4 #[.val (.ref r0)] [(.int (0 : Int32))]))
  refine Good.back (fun _ k => XS.ifNo X1.here hx rfl (hb hby own_d22_4) rfl ((if0 _ _).trans (teq (by decide : ((0 : Int32) = (0 : Int32)))).2) k) ?_
  show Good p e below _ (T1.setTop (mkF m 7 #[.val (.ref r0)] []))
  refine Good.back (fun _ k => XS.iconst X1.here hx rfl (hb hby own_d22_7) k) ?_
  show Good p e below _ (T1.setTop (mkF m 8 #[.val (.ref r0)] [(.int (1 : Int32))]))
  refine Good.back (fun _ k => XS.goto X1.here hx rfl (pc0 := 8) (pc' := 12) rfl (hb hby own_d22_8) (by decide) (by decide) k) ?_
  show Good p e below _ (T1.setTop (mkF m 12 #[.val (.ref r0)] [(.int (1 : Int32))]))
  obtain ⟨fs2, hr2, hrun2, hended2, hW2, hsame2⟩ := X1.leave (v := some (.int (1 : Int32))) (fun h => by rw [Bd.returns] at h; cases h)
  refine Good.done (retN X1 hx (t := .boolean) Bd.returns (by simp) (hb hby own_d22_12) hr2) hrun2 hended2 ⟨_, _, rfl, ?_, ⟨_, rfl⟩, hW2, hsame2.mono (by decide) (by decide)⟩
  show Q22_0 Z r0 h0 n0 _ T1.heap _
  rw [e1]
  exact ⟨rfl, N0, rfl⟩
theorem own_d22_11 : decode jdk_38_method_9_code 11 = .ok (.iconst 0, 1) := by decide +kernel
theorem own_ef_22_1 (m : MethodId) (x0 : Addr) : entryFrame m #[(.ref x0)] 1 = mkF m 0 #[.val (.ref x0)] [] := by first | (simp [entryFrame, mkF, argsToLocals, Value.category]; done) | rfl
def Q22_1 (Z : State) (r0 : Addr) (h0 : Heap) (n0 : Nat) (v : Option Value) (h : Heap) (L : List Loc) : Prop := v = some (.int (0 : Int32)) ∧ Fr n0 L ∧ h = h0
set_option maxRecDepth 65536 in
set_option maxHeartbeats 40000000 in
theorem rm22_1 (l : Launch) (Z : State) (a0 : Array Value) (hw : ∀ d ∈ tables_1, d.before a0 Z = true) (ws : List Jvm.Cond) (r0 : Addr) (h0 : Heap) (n0 : Nat) (Z0 : n0 ≤ h0.size) (Fs : Fld Z h0 r0 "java/util/ArrayList" "size" "I" (.int (1 : Int32))) :
    MetFree l (⟨"java/util/ArrayList", "isEmpty", "()Z"⟩ : MethodName) (head1 (Jvm.Cond.code (⟨"java/util/ArrayList", "isEmpty", "()Z"⟩ : MethodName) jdk_38_method_9_code 1 (some .boolean) :: ws) ({ frames := 0, cells := 0, slots := 0, locals := 0 } : Room)) (fun a U => a = #[(.ref r0)] ∧ Z.Warmed39 U.vm ∧ U.heap = h0) (fun _ _ _ _ _ => True) (fun _ U o U' => ∃ v L, o = .returned v ∧ Q22_1 Z r0 h0 n0 v U'.heap L ∧ FrameEnd U o U' L ({ frames := 0, cells := 0, slots := 0, locals := 0 } : Room).cells ({ frames := 0, cells := 0, slots := 0, locals := 0 } : Room).slots) := by
  refine MetFree.of_bodySF (plainFor_of_name own_pn11) hisR ?_
  intro p e s m args below meth c s₁ Bd hml0 hP hK
  obtain ⟨rfl, hZ, hh⟩ := hP
  have hx := Bd.exec
  have hby := Bd.bytes
  have hml : c.maxLocals = 1 := hml0
  have hown : s.vm.findClass "java/util/ArrayList" = some m.cls := findClass_of_methodNamed Bd.named
  have hnm := (name_of_methodNamed Bd.named Bd.method).1
  have X0 : Stand p l e ({ frames := 0, cells := 0, slots := 0, locals := 0 } : Room) s m #[(.ref r0)] below meth c s₁ [] 0 0 := Stand.of_body Bd
  have e0 : s₁.heap = h0 := by rw [← hh, Bd.state]; rfl
  have N0 := Fr.nil n0
  show Good p e below (fun o U' => ∃ v L, o = .returned v ∧ Q22_1 Z r0 h0 n0 v U'.heap L ∧ FrameEnd s o U' L ({ frames := 0, cells := 0, slots := 0, locals := 0 } : Room).cells ({ frames := 0, cells := 0, slots := 0, locals := 0 } : Room).slots) _
  refine Good.back (S' := s₁.setTop (mkF m 0 #[.val (.ref r0)] [])) (fun t k => castTop (own_ef_22_1 m r0) k) ?_
  show Good p e below _ (s₁.setTop (mkF m 0 #[.val (.ref r0)] []))
  refine Good.back (fun _ k => XS.aloadN X0.here hx rfl (hb hby own_d22_0) rfl rfl k) ?_
  obtain ⟨T1, X1, e1, st1⟩ := getF X0 hx hZ hown (host := "") (Or.inl (hw _ (own_m 135 rfl))) Via.refl e0 Fs (g := (mkF m 1 #[.val (.ref r0)] [(.ref r0)])) rfl rfl (hb hby own_d22_1)
  refine Good.back st1 ?_
  show Good p e below _ (T1.setTop (mkF m 4 #[.val (.ref r0)] [(.int (1 : Int32))]))
  refine Good.back (fun _ k => XS.ifYes X1.here hx rfl (pc0 := 4) (pc' := 11) rfl (hb hby own_d22_4) rfl ((if0 _ _).trans (feq (by decide : ¬ ((1 : Int32) = (0 : Int32)))).2) (by decide) (by decide) k) ?_
  show Good p e below _ (T1.setTop (mkF m 11 #[.val (.ref r0)] []))
  refine Good.back (fun _ k => XS.iconst X1.here hx rfl (hb hby own_d22_11) k) ?_
  show Good p e below _ (T1.setTop (mkF m 12 #[.val (.ref r0)] [(.int (0 : Int32))]))
  obtain ⟨fs2, hr2, hrun2, hended2, hW2, hsame2⟩ := X1.leave (v := some (.int (0 : Int32))) (fun h => by rw [Bd.returns] at h; cases h)
  refine Good.done (retN X1 hx (t := .boolean) Bd.returns (by simp) (hb hby own_d22_12) hr2) hrun2 hended2 ⟨_, _, rfl, ?_, ⟨_, rfl⟩, hW2, hsame2.mono (by decide) (by decide)⟩
  show Q22_1 Z r0 h0 n0 _ T1.heap _
  rw [e1]
  exact ⟨rfl, N0, rfl⟩
theorem own_ef_22_2 (m : MethodId) (x0 : Addr) : entryFrame m #[(.ref x0)] 1 = mkF m 0 #[.val (.ref x0)] [] := by first | (simp [entryFrame, mkF, argsToLocals, Value.category]; done) | rfl
def Q22_2 (Z : State) (r0 : Addr) (h0 : Heap) (n0 : Nat) (v : Option Value) (h : Heap) (L : List Loc) : Prop := v = some (.int (0 : Int32)) ∧ Fr n0 L ∧ h = h0
set_option maxRecDepth 65536 in
set_option maxHeartbeats 40000000 in
theorem rm22_2 (l : Launch) (Z : State) (a0 : Array Value) (hw : ∀ d ∈ tables_1, d.before a0 Z = true) (ws : List Jvm.Cond) (r0 : Addr) (h0 : Heap) (n0 : Nat) (Z0 : n0 ≤ h0.size) (Fs : Fld Z h0 r0 "java/util/ArrayList" "size" "I" (.int (2 : Int32))) :
    MetFree l (⟨"java/util/ArrayList", "isEmpty", "()Z"⟩ : MethodName) (head1 (Jvm.Cond.code (⟨"java/util/ArrayList", "isEmpty", "()Z"⟩ : MethodName) jdk_38_method_9_code 1 (some .boolean) :: ws) ({ frames := 0, cells := 0, slots := 0, locals := 0 } : Room)) (fun a U => a = #[(.ref r0)] ∧ Z.Warmed39 U.vm ∧ U.heap = h0) (fun _ _ _ _ _ => True) (fun _ U o U' => ∃ v L, o = .returned v ∧ Q22_2 Z r0 h0 n0 v U'.heap L ∧ FrameEnd U o U' L ({ frames := 0, cells := 0, slots := 0, locals := 0 } : Room).cells ({ frames := 0, cells := 0, slots := 0, locals := 0 } : Room).slots) := by
  refine MetFree.of_bodySF (plainFor_of_name own_pn11) hisR ?_
  intro p e s m args below meth c s₁ Bd hml0 hP hK
  obtain ⟨rfl, hZ, hh⟩ := hP
  have hx := Bd.exec
  have hby := Bd.bytes
  have hml : c.maxLocals = 1 := hml0
  have hown : s.vm.findClass "java/util/ArrayList" = some m.cls := findClass_of_methodNamed Bd.named
  have hnm := (name_of_methodNamed Bd.named Bd.method).1
  have X0 : Stand p l e ({ frames := 0, cells := 0, slots := 0, locals := 0 } : Room) s m #[(.ref r0)] below meth c s₁ [] 0 0 := Stand.of_body Bd
  have e0 : s₁.heap = h0 := by rw [← hh, Bd.state]; rfl
  have N0 := Fr.nil n0
  show Good p e below (fun o U' => ∃ v L, o = .returned v ∧ Q22_2 Z r0 h0 n0 v U'.heap L ∧ FrameEnd s o U' L ({ frames := 0, cells := 0, slots := 0, locals := 0 } : Room).cells ({ frames := 0, cells := 0, slots := 0, locals := 0 } : Room).slots) _
  refine Good.back (S' := s₁.setTop (mkF m 0 #[.val (.ref r0)] [])) (fun t k => castTop (own_ef_22_2 m r0) k) ?_
  show Good p e below _ (s₁.setTop (mkF m 0 #[.val (.ref r0)] []))
  refine Good.back (fun _ k => XS.aloadN X0.here hx rfl (hb hby own_d22_0) rfl rfl k) ?_
  obtain ⟨T1, X1, e1, st1⟩ := getF X0 hx hZ hown (host := "") (Or.inl (hw _ (own_m 135 rfl))) Via.refl e0 Fs (g := (mkF m 1 #[.val (.ref r0)] [(.ref r0)])) rfl rfl (hb hby own_d22_1)
  refine Good.back st1 ?_
  show Good p e below _ (T1.setTop (mkF m 4 #[.val (.ref r0)] [(.int (2 : Int32))]))
  refine Good.back (fun _ k => XS.ifYes X1.here hx rfl (pc0 := 4) (pc' := 11) rfl (hb hby own_d22_4) rfl ((if0 _ _).trans (feq (by decide : ¬ ((2 : Int32) = (0 : Int32)))).2) (by decide) (by decide) k) ?_
  show Good p e below _ (T1.setTop (mkF m 11 #[.val (.ref r0)] []))
  refine Good.back (fun _ k => XS.iconst X1.here hx rfl (hb hby own_d22_11) k) ?_
  show Good p e below _ (T1.setTop (mkF m 12 #[.val (.ref r0)] [(.int (0 : Int32))]))
  obtain ⟨fs2, hr2, hrun2, hended2, hW2, hsame2⟩ := X1.leave (v := some (.int (0 : Int32))) (fun h => by rw [Bd.returns] at h; cases h)
  refine Good.done (retN X1 hx (t := .boolean) Bd.returns (by simp) (hb hby own_d22_12) hr2) hrun2 hended2 ⟨_, _, rfl, ?_, ⟨_, rfl⟩, hW2, hsame2.mono (by decide) (by decide)⟩
  show Q22_2 Z r0 h0 n0 _ T1.heap _
  rw [e1]
  exact ⟨rfl, N0, rfl⟩
theorem own_ef_22_3 (m : MethodId) (x0 : Addr) : entryFrame m #[(.ref x0)] 1 = mkF m 0 #[.val (.ref x0)] [] := by first | (simp [entryFrame, mkF, argsToLocals, Value.category]; done) | rfl
def Q22_3 (Z : State) (r0 : Addr) (h0 : Heap) (n0 : Nat) (v : Option Value) (h : Heap) (L : List Loc) : Prop := v = some (.int (0 : Int32)) ∧ Fr n0 L ∧ h = h0
set_option maxRecDepth 65536 in
set_option maxHeartbeats 40000000 in
theorem rm22_3 (l : Launch) (Z : State) (a0 : Array Value) (hw : ∀ d ∈ tables_1, d.before a0 Z = true) (ws : List Jvm.Cond) (r0 : Addr) (h0 : Heap) (n0 : Nat) (Z0 : n0 ≤ h0.size) (Fs : Fld Z h0 r0 "java/util/ArrayList" "size" "I" (.int (3 : Int32))) :
    MetFree l (⟨"java/util/ArrayList", "isEmpty", "()Z"⟩ : MethodName) (head1 (Jvm.Cond.code (⟨"java/util/ArrayList", "isEmpty", "()Z"⟩ : MethodName) jdk_38_method_9_code 1 (some .boolean) :: ws) ({ frames := 0, cells := 0, slots := 0, locals := 0 } : Room)) (fun a U => a = #[(.ref r0)] ∧ Z.Warmed39 U.vm ∧ U.heap = h0) (fun _ _ _ _ _ => True) (fun _ U o U' => ∃ v L, o = .returned v ∧ Q22_3 Z r0 h0 n0 v U'.heap L ∧ FrameEnd U o U' L ({ frames := 0, cells := 0, slots := 0, locals := 0 } : Room).cells ({ frames := 0, cells := 0, slots := 0, locals := 0 } : Room).slots) := by
  refine MetFree.of_bodySF (plainFor_of_name own_pn11) hisR ?_
  intro p e s m args below meth c s₁ Bd hml0 hP hK
  obtain ⟨rfl, hZ, hh⟩ := hP
  have hx := Bd.exec
  have hby := Bd.bytes
  have hml : c.maxLocals = 1 := hml0
  have hown : s.vm.findClass "java/util/ArrayList" = some m.cls := findClass_of_methodNamed Bd.named
  have hnm := (name_of_methodNamed Bd.named Bd.method).1
  have X0 : Stand p l e ({ frames := 0, cells := 0, slots := 0, locals := 0 } : Room) s m #[(.ref r0)] below meth c s₁ [] 0 0 := Stand.of_body Bd
  have e0 : s₁.heap = h0 := by rw [← hh, Bd.state]; rfl
  have N0 := Fr.nil n0
  show Good p e below (fun o U' => ∃ v L, o = .returned v ∧ Q22_3 Z r0 h0 n0 v U'.heap L ∧ FrameEnd s o U' L ({ frames := 0, cells := 0, slots := 0, locals := 0 } : Room).cells ({ frames := 0, cells := 0, slots := 0, locals := 0 } : Room).slots) _
  refine Good.back (S' := s₁.setTop (mkF m 0 #[.val (.ref r0)] [])) (fun t k => castTop (own_ef_22_3 m r0) k) ?_
  show Good p e below _ (s₁.setTop (mkF m 0 #[.val (.ref r0)] []))
  refine Good.back (fun _ k => XS.aloadN X0.here hx rfl (hb hby own_d22_0) rfl rfl k) ?_
  obtain ⟨T1, X1, e1, st1⟩ := getF X0 hx hZ hown (host := "") (Or.inl (hw _ (own_m 135 rfl))) Via.refl e0 Fs (g := (mkF m 1 #[.val (.ref r0)] [(.ref r0)])) rfl rfl (hb hby own_d22_1)
  refine Good.back st1 ?_
  show Good p e below _ (T1.setTop (mkF m 4 #[.val (.ref r0)] [(.int (3 : Int32))]))
  refine Good.back (fun _ k => XS.ifYes X1.here hx rfl (pc0 := 4) (pc' := 11) rfl (hb hby own_d22_4) rfl ((if0 _ _).trans (feq (by decide : ¬ ((3 : Int32) = (0 : Int32)))).2) (by decide) (by decide) k) ?_
  show Good p e below _ (T1.setTop (mkF m 11 #[.val (.ref r0)] []))
  refine Good.back (fun _ k => XS.iconst X1.here hx rfl (hb hby own_d22_11) k) ?_
  show Good p e below _ (T1.setTop (mkF m 12 #[.val (.ref r0)] [(.int (0 : Int32))]))
  obtain ⟨fs2, hr2, hrun2, hended2, hW2, hsame2⟩ := X1.leave (v := some (.int (0 : Int32))) (fun h => by rw [Bd.returns] at h; cases h)
  refine Good.done (retN X1 hx (t := .boolean) Bd.returns (by simp) (hb hby own_d22_12) hr2) hrun2 hended2 ⟨_, _, rfl, ?_, ⟨_, rfl⟩, hW2, hsame2.mono (by decide) (by decide)⟩
  show Q22_3 Z r0 h0 n0 _ T1.heap _
  rw [e1]
  exact ⟨rfl, N0, rfl⟩
theorem own_pd380 : parseMethodDescriptor "(Ljava/lang/Object;)Ljava/lang/Object;" = some ⟨[(.object "java/lang/Object")], some (.object "java/lang/Object")⟩ := by decide +kernel
theorem own_pn15 : plainName "java/util/ImmutableCollections$List12" = true := by first | (simp [plainName, overriddenIn]; done) | decide +kernel
theorem own_d39_0 : decode jdk_44_method_1_code 0 = .ok (.aload_n 0, 1) := by decide +kernel
theorem own_d39_1 : decode jdk_44_method_1_code 1 = .ok (.invokespecial 1, 3) := by decide +kernel
theorem own_d39_4 : decode jdk_44_method_1_code 4 = .ok (.aload_n 0, 1) := by decide +kernel
theorem own_d39_5 : decode jdk_44_method_1_code 5 = .ok (.aload_n 1, 1) := by decide +kernel
theorem own_d39_6 : decode jdk_44_method_1_code 6 = .ok (.invokestatic 7, 3) := by decide +kernel
theorem own_d39_9 : decode jdk_44_method_1_code 9 = .ok (.putfield 13, 3) := by decide +kernel
theorem own_d39_12 : decode jdk_44_method_1_code 12 = .ok (.aload_n 0, 1) := by decide +kernel
theorem own_d39_13 : decode jdk_44_method_1_code 13 = .ok (.getstatic 19, 3) := by decide +kernel
theorem own_d39_16 : decode jdk_44_method_1_code 16 = .ok (.putfield 24, 3) := by decide +kernel
theorem own_d39_19 : decode jdk_44_method_1_code 19 = .ok (.return_, 1) := by decide +kernel
theorem own_ef_39 (m : MethodId) (x0 : Addr) (x1 : Addr) : entryFrame m #[(.ref x0), (.ref x1)] 2 = mkF m 0 #[.val (.ref x0), .val (.ref x1)] [] := by first | (simp [entryFrame, mkF, argsToLocals, Value.category]; done) | rfl
def Q39 (Z : State) (r0 : Addr) (r1 : Addr) (em : Addr) (h0 : Heap) (n0 : Nat) (v : Option Value) (h : Heap) (L : List Loc) : Prop := v = none ∧ Fr n0 L ∧ Keep h0 h [r0] ∧ Fld Z h r0 "java/util/ImmutableCollections$List12" "e0" "Ljava/lang/Object;" (.ref r1) ∧ Fld Z h r0 "java/util/ImmutableCollections$List12" "e1" "Ljava/lang/Object;" (.ref em)
set_option maxRecDepth 65536 in
set_option maxHeartbeats 40000000 in
theorem rm39 (l : Launch) (Z : State) (a0 : Array Value) (hw : ∀ d ∈ tables_1, d.before a0 Z = true) (ws : List Jvm.Cond) (r0 : Addr) (r1 : Addr) (em : Addr) (h0 : Heap) (n0 : Nat) (Z0 : n0 ≤ h0.size) (E0 : Exa Z h0 r0 "java/util/ImmutableCollections$List12") (g0 : n0 ≤ r0) (F_r0_e0 : Fld Z h0 r0 "java/util/ImmutableCollections$List12" "e0" "Ljava/lang/Object;" .null) (F_r0_e1 : Fld Z h0 r0 "java/util/ImmutableCollections$List12" "e1" "Ljava/lang/Object;" .null) (S_em : Sta Z h0 "java/util/ImmutableCollections" "EMPTY" "Ljava/lang/Object;" (.ref em)) :
    MetFree l (⟨"java/util/ImmutableCollections$List12", "<init>", "(Ljava/lang/Object;)V"⟩ : MethodName) (head1 (Jvm.Cond.code (⟨"java/util/ImmutableCollections$List12", "<init>", "(Ljava/lang/Object;)V"⟩ : MethodName) jdk_44_method_1_code 2 none :: ws) ({ frames := 4, cells := 0, slots := 0, locals := 48 } : Room)) (fun a U => a = #[(.ref r0), (.ref r1)] ∧ Z.Warmed39 U.vm ∧ U.heap = h0) (fun _ _ _ _ _ => True) (fun _ U o U' => ∃ v L, o = .returned v ∧ Q39 Z r0 r1 em h0 n0 v U'.heap L ∧ FrameEnd U o U' L ({ frames := 4, cells := 0, slots := 0, locals := 48 } : Room).cells ({ frames := 4, cells := 0, slots := 0, locals := 48 } : Room).slots) := by
  refine MetFree.of_bodySF (plainFor_of_name own_pn15) hisR ?_
  intro p e s m args below meth c s₁ Bd hml0 hP hK
  obtain ⟨rfl, hZ, hh⟩ := hP
  have hx := Bd.exec
  have hby := Bd.bytes
  have hml : c.maxLocals = 2 := hml0
  have hown : s.vm.findClass "java/util/ImmutableCollections$List12" = some m.cls := findClass_of_methodNamed Bd.named
  have hnm := (name_of_methodNamed Bd.named Bd.method).1
  have X0 : Stand p l e ({ frames := 4, cells := 0, slots := 0, locals := 48 } : Room) s m #[(.ref r0), (.ref r1)] below meth c s₁ [] 0 0 := Stand.of_body Bd
  have e0 : s₁.heap = h0 := by rw [← hh, Bd.state]; rfl
  have N0 := Fr.nil n0
  have KR : Keep h0 h0 [r0] := Keep.refl h0 _
  show Good p e below (fun o U' => ∃ v L, o = .returned v ∧ Q39 Z r0 r1 em h0 n0 v U'.heap L ∧ FrameEnd s o U' L ({ frames := 4, cells := 0, slots := 0, locals := 48 } : Room).cells ({ frames := 4, cells := 0, slots := 0, locals := 48 } : Room).slots) _
  refine Good.back (S' := s₁.setTop (mkF m 0 #[.val (.ref r0), .val (.ref r1)] [])) (fun t k => castTop (own_ef_39 m r0 r1) k) ?_
  show Good p e below _ (s₁.setTop (mkF m 0 #[.val (.ref r0), .val (.ref r1)] []))
  refine Good.back (fun _ k => XS.aloadN X0.here hx rfl (hb hby own_d39_0) rfl rfl k) ?_
  obtain ⟨_, _, ⟨T1, L1, k1, n1⟩, -, X1, ⟨Lc1, hQ1, l1, y1, z1⟩, st1⟩ := X0.specialBack hx (y := (⟨"java/util/ImmutableCollections$AbstractImmutableList", "<init>", "()V"⟩ : MethodName)) rfl hown (mvT hZ (hw _ (own_m 249 rfl))) (mvT hZ (hw _ (own_m 250 rfl))) (mvT hZ (hw _ (own_m 254 rfl))) (by decide) (backOf (W := 0) (rm40 l Z a0 hw [] r0  h0 n0 Z0 ) hZ (hw _ (own_m 254 rfl)) (hw _ (own_m 253 rfl)) (by decide) (by decide)) (g := (mkF m 1 #[.val (.ref r0), .val (.ref r1)] [(.ref r0)])) rfl (by rw [hml]; rfl) (Steps.refl _) (a := r0) (argsL := []) (rest := []) (lenOf own_pd122 rfl) rfl (by show 2 * 0 + _ ≤ _; exact Nat.le_of_eq rfl) (hb hby own_d39_1) (fun _ _ => ⟨rfl, e0, (by decide : 0 + 0 ≤ _), (by decide : 0 + 0 ≤ _)⟩)
  dsimp only [Pt.U, Pt.locs, Pt.cells, Pt.slots] at X1 l1 y1 z1 st1 hQ1
  subst l1 y1 z1
  obtain ⟨rfl, N1q, eh1⟩ := hQ1
  have N1 := Fr.app N0 N1q
  refine Good.back (fun _ k => st1.trans k) ?_
  refine Good.back (fun _ k => XS.aloadN X1.here hx rfl (hb hby own_d39_4) rfl rfl k) ?_
  refine Good.back (fun _ k => XS.aloadN X1.here hx rfl (hb hby own_d39_5) rfl rfl k) ?_
  obtain ⟨_, _, ⟨T2, L2, k2, n2⟩, -, X2, ⟨Lc2, hQ2, l2, y2, z2⟩, st2⟩ := Jvm.LawKit.callS X1 hx (y := (⟨"java/util/Objects", "requireNonNull", "(Ljava/lang/Object;)Ljava/lang/Object;"⟩ : MethodName)) hown (mvT hZ (hw _ (own_m 263 rfl))) (mvT hZ (hw _ (own_m 264 rfl))) (mvT hZ (hw _ (own_m 68 rfl))) (mvT hZ (hw _ (own_m 265 rfl))) (by decide) (backOf (W := 1) (rm42 l Z a0 hw [] r1  h0 n0 Z0 ) hZ (hw _ (own_m 265 rfl)) (hw _ (own_m 68 rfl)) (by decide) (by decide)) (g := (mkF m 6 #[.val (.ref r0), .val (.ref r1)] [(.ref r1), (.ref r0)])) rfl (by rw [hml]; rfl) (argsL := [(.ref r1)]) (rest := [(.ref r0)]) (lenOf own_pd380 rfl) rfl (by show 2 * 0 + _ ≤ _; exact Nat.le_of_eq rfl) (hb hby own_d39_6) (fun _ _ => ⟨rfl, eh1, (by decide : 0 + 0 ≤ _), (by decide : 0 + 0 ≤ _)⟩)
  dsimp only [Pt.U, Pt.locs, Pt.cells, Pt.slots] at X2 l2 y2 z2 st2 hQ2
  subst l2 y2 z2
  obtain ⟨rfl, N2q, eh2⟩ := hQ2
  have N2 := Fr.app N1 N2q
  refine Good.back st2 ?_
  obtain ⟨T3, h3, X3, e3, W3, st3⟩ := putF X2 hx hZ hown (host := "") (Or.inl (hw _ (own_m 266 rfl))) Via.refl eh2 F_r0_e0 E0 (Or.inr ⟨(hw _ (own_m 267 rfl)), rfl, hnm⟩) (hw _ (own_m 243 rfl)) (ty := (.object "java/lang/Object")) (by decide) rfl rfl (g := (mkF m 9 #[.val (.ref r0), .val (.ref r1)] [(.ref r1), (.ref r0)])) rfl rfl (hb hby own_d39_9)
  refine Good.back st3 ?_
  have f_4 : Fld Z h3 r0 "java/util/ImmutableCollections$List12" "e0" "Ljava/lang/Object;" (.ref r1) := Fld.same W3 F_r0_e0
  have N3 := Fr.snoc X3 N2 g0
  have Z5 : n0 ≤ h3.size := Nat.le_trans Z0 (Keep.of_wr W3).1
  have K6 : Keep h0 h3 [r0] := KR.wr W3 (Or.inl (List.mem_of_getElem? (i := 0) rfl))
  refine Good.back (fun _ k => XS.aloadN X3.here hx rfl (hb hby own_d39_12) rfl rfl k) ?_
  have f_7 : Sta Z h3 "java/util/ImmutableCollections" "EMPTY" "Ljava/lang/Object;" (.ref em) := Sta.wr W3 S_em
  obtain ⟨T8, X8, e8, st8⟩ := getS2 X3 hx hZ hown (Or.inr (hw _ (own_m 268 rfl))) Via.refl e3 f_7 (g := (mkF m 13 #[.val (.ref r0), .val (.ref r1)] [(.ref r0)])) rfl (hb hby own_d39_13)
  refine Good.back st8 ?_
  have f_9 : Fld Z h3 r0 "java/util/ImmutableCollections$List12" "e1" "Ljava/lang/Object;" .null := Fld.other W3 F_r0_e1 (Or.inr (slot_ne (Or.inr (hw _ (own_m 270 rfl))) (Or.inr (hw _ (own_m 267 rfl))) (by decide) (t := (.object "java/lang/Object")) (t' := (.object "java/lang/Object")) (by decide) (by decide)))
  have f_10 : Exa Z h3 r0 "java/util/ImmutableCollections$List12" := Exa.wr W3 E0
  obtain ⟨T11, h11, X11, e11, W11, st11⟩ := putF X8 hx hZ hown (host := "") (Or.inl (hw _ (own_m 269 rfl))) Via.refl e8 f_9 f_10 (Or.inr ⟨(hw _ (own_m 270 rfl)), rfl, hnm⟩) (hw _ (own_m 243 rfl)) (ty := (.object "java/lang/Object")) (by decide) rfl rfl (g := (mkF m 16 #[.val (.ref r0), .val (.ref r1)] [(.ref em), (.ref r0)])) rfl rfl (hb hby own_d39_16)
  refine Good.back st11 ?_
  have f_12 : Fld Z h11 r0 "java/util/ImmutableCollections$List12" "e1" "Ljava/lang/Object;" (.ref em) := Fld.same W11 f_9
  have N11 := Fr.snoc X11 N3 g0
  have Z13 : n0 ≤ h11.size := Nat.le_trans Z5 (Keep.of_wr W11).1
  have K14 : Keep h0 h11 [r0] := K6.wr W11 (Or.inl (List.mem_of_getElem? (i := 0) rfl))
  show Good p e below _ (T11.setTop (mkF m 19 #[.val (.ref r0), .val (.ref r1)] []))
  obtain ⟨fs15, hr15, hrun15, hended15, hW15, hsame15⟩ := X11.leave (v := none) (fun _ => rfl)
  refine Good.done (X11.returnOut hx Bd.returns (hb hby own_d39_19) hr15) hrun15 hended15 ⟨_, _, rfl, ?_, ⟨_, rfl⟩, hW15, hsame15.mono (by decide) (by decide)⟩
  show Q39 Z r0 r1 em h0 n0 _ T11.heap _
  rw [e11]
  have f_16 : Fld Z h11 r0 "java/util/ImmutableCollections$List12" "e0" "Ljava/lang/Object;" (.ref r1) := Fld.other W11 f_4 (Or.inr (slot_ne (Or.inr (hw _ (own_m 267 rfl))) (Or.inr (hw _ (own_m 270 rfl))) (by decide) (t := (.object "java/lang/Object")) (t' := (.object "java/lang/Object")) (by decide) (by decide)))
  exact ⟨rfl, N11, K14, f_16, f_12⟩
theorem own_d48_0 : decode jdk_44_method_2_code 0 = .ok (.aload_n 0, 1) := by decide +kernel
theorem own_d48_1 : decode jdk_44_method_2_code 1 = .ok (.invokespecial 1, 3) := by decide +kernel
theorem own_d48_4 : decode jdk_44_method_2_code 4 = .ok (.aload_n 0, 1) := by decide +kernel
theorem own_d48_5 : decode jdk_44_method_2_code 5 = .ok (.aload_n 1, 1) := by decide +kernel
theorem own_d48_6 : decode jdk_44_method_2_code 6 = .ok (.invokestatic 7, 3) := by decide +kernel
theorem own_d48_9 : decode jdk_44_method_2_code 9 = .ok (.putfield 13, 3) := by decide +kernel
theorem own_d48_12 : decode jdk_44_method_2_code 12 = .ok (.aload_n 0, 1) := by decide +kernel
theorem own_d48_13 : decode jdk_44_method_2_code 13 = .ok (.aload_n 2, 1) := by decide +kernel
theorem own_d48_14 : decode jdk_44_method_2_code 14 = .ok (.invokestatic 7, 3) := by decide +kernel
theorem own_d48_17 : decode jdk_44_method_2_code 17 = .ok (.putfield 24, 3) := by decide +kernel
theorem own_d48_20 : decode jdk_44_method_2_code 20 = .ok (.return_, 1) := by decide +kernel
theorem own_ef_48 (m : MethodId) (x0 : Addr) (x1 : Addr) (x2 : Addr) : entryFrame m #[(.ref x0), (.ref x1), (.ref x2)] 3 = mkF m 0 #[.val (.ref x0), .val (.ref x1), .val (.ref x2)] [] := by first | (simp [entryFrame, mkF, argsToLocals, Value.category]; done) | rfl
def Q48 (Z : State) (r0 : Addr) (r1 : Addr) (r2 : Addr) (h0 : Heap) (n0 : Nat) (v : Option Value) (h : Heap) (L : List Loc) : Prop := v = none ∧ Fr n0 L ∧ Keep h0 h [r0] ∧ Fld Z h r0 "java/util/ImmutableCollections$List12" "e0" "Ljava/lang/Object;" (.ref r1) ∧ Fld Z h r0 "java/util/ImmutableCollections$List12" "e1" "Ljava/lang/Object;" (.ref r2)
set_option maxRecDepth 65536 in
set_option maxHeartbeats 40000000 in
theorem rm48 (l : Launch) (Z : State) (a0 : Array Value) (hw : ∀ d ∈ tables_1, d.before a0 Z = true) (ws : List Jvm.Cond) (r0 : Addr) (r1 : Addr) (r2 : Addr) (h0 : Heap) (n0 : Nat) (Z0 : n0 ≤ h0.size) (E0 : Exa Z h0 r0 "java/util/ImmutableCollections$List12") (g0 : n0 ≤ r0) (F_r0_e0 : Fld Z h0 r0 "java/util/ImmutableCollections$List12" "e0" "Ljava/lang/Object;" .null) (F_r0_e1 : Fld Z h0 r0 "java/util/ImmutableCollections$List12" "e1" "Ljava/lang/Object;" .null) :
    MetFree l (⟨"java/util/ImmutableCollections$List12", "<init>", "(Ljava/lang/Object;Ljava/lang/Object;)V"⟩ : MethodName) (head1 (Jvm.Cond.code (⟨"java/util/ImmutableCollections$List12", "<init>", "(Ljava/lang/Object;Ljava/lang/Object;)V"⟩ : MethodName) jdk_44_method_2_code 3 none :: ws) ({ frames := 4, cells := 0, slots := 0, locals := 48 } : Room)) (fun a U => a = #[(.ref r0), (.ref r1), (.ref r2)] ∧ Z.Warmed39 U.vm ∧ U.heap = h0) (fun _ _ _ _ _ => True) (fun _ U o U' => ∃ v L, o = .returned v ∧ Q48 Z r0 r1 r2 h0 n0 v U'.heap L ∧ FrameEnd U o U' L ({ frames := 4, cells := 0, slots := 0, locals := 48 } : Room).cells ({ frames := 4, cells := 0, slots := 0, locals := 48 } : Room).slots) := by
  refine MetFree.of_bodySF (plainFor_of_name own_pn15) hisR ?_
  intro p e s m args below meth c s₁ Bd hml0 hP hK
  obtain ⟨rfl, hZ, hh⟩ := hP
  have hx := Bd.exec
  have hby := Bd.bytes
  have hml : c.maxLocals = 3 := hml0
  have hown : s.vm.findClass "java/util/ImmutableCollections$List12" = some m.cls := findClass_of_methodNamed Bd.named
  have hnm := (name_of_methodNamed Bd.named Bd.method).1
  have X0 : Stand p l e ({ frames := 4, cells := 0, slots := 0, locals := 48 } : Room) s m #[(.ref r0), (.ref r1), (.ref r2)] below meth c s₁ [] 0 0 := Stand.of_body Bd
  have e0 : s₁.heap = h0 := by rw [← hh, Bd.state]; rfl
  have N0 := Fr.nil n0
  have KR : Keep h0 h0 [r0] := Keep.refl h0 _
  show Good p e below (fun o U' => ∃ v L, o = .returned v ∧ Q48 Z r0 r1 r2 h0 n0 v U'.heap L ∧ FrameEnd s o U' L ({ frames := 4, cells := 0, slots := 0, locals := 48 } : Room).cells ({ frames := 4, cells := 0, slots := 0, locals := 48 } : Room).slots) _
  refine Good.back (S' := s₁.setTop (mkF m 0 #[.val (.ref r0), .val (.ref r1), .val (.ref r2)] [])) (fun t k => castTop (own_ef_48 m r0 r1 r2) k) ?_
  show Good p e below _ (s₁.setTop (mkF m 0 #[.val (.ref r0), .val (.ref r1), .val (.ref r2)] []))
  refine Good.back (fun _ k => XS.aloadN X0.here hx rfl (hb hby own_d48_0) rfl rfl k) ?_
  obtain ⟨_, _, ⟨T1, L1, k1, n1⟩, -, X1, ⟨Lc1, hQ1, l1, y1, z1⟩, st1⟩ := X0.specialBack hx (y := (⟨"java/util/ImmutableCollections$AbstractImmutableList", "<init>", "()V"⟩ : MethodName)) rfl hown (mvT hZ (hw _ (own_m 249 rfl))) (mvT hZ (hw _ (own_m 250 rfl))) (mvT hZ (hw _ (own_m 254 rfl))) (by decide) (backOf (W := 0) (rm40 l Z a0 hw [] r0  h0 n0 Z0 ) hZ (hw _ (own_m 254 rfl)) (hw _ (own_m 253 rfl)) (by decide) (by decide)) (g := (mkF m 1 #[.val (.ref r0), .val (.ref r1), .val (.ref r2)] [(.ref r0)])) rfl (by rw [hml]; rfl) (Steps.refl _) (a := r0) (argsL := []) (rest := []) (lenOf own_pd122 rfl) rfl (by show 2 * 0 + _ ≤ _; exact Nat.le_of_eq rfl) (hb hby own_d48_1) (fun _ _ => ⟨rfl, e0, (by decide : 0 + 0 ≤ _), (by decide : 0 + 0 ≤ _)⟩)
  dsimp only [Pt.U, Pt.locs, Pt.cells, Pt.slots] at X1 l1 y1 z1 st1 hQ1
  subst l1 y1 z1
  obtain ⟨rfl, N1q, eh1⟩ := hQ1
  have N1 := Fr.app N0 N1q
  refine Good.back (fun _ k => st1.trans k) ?_
  refine Good.back (fun _ k => XS.aloadN X1.here hx rfl (hb hby own_d48_4) rfl rfl k) ?_
  refine Good.back (fun _ k => XS.aloadN X1.here hx rfl (hb hby own_d48_5) rfl rfl k) ?_
  obtain ⟨_, _, ⟨T2, L2, k2, n2⟩, -, X2, ⟨Lc2, hQ2, l2, y2, z2⟩, st2⟩ := Jvm.LawKit.callS X1 hx (y := (⟨"java/util/Objects", "requireNonNull", "(Ljava/lang/Object;)Ljava/lang/Object;"⟩ : MethodName)) hown (mvT hZ (hw _ (own_m 263 rfl))) (mvT hZ (hw _ (own_m 264 rfl))) (mvT hZ (hw _ (own_m 68 rfl))) (mvT hZ (hw _ (own_m 265 rfl))) (by decide) (backOf (W := 1) (rm42 l Z a0 hw [] r1  h0 n0 Z0 ) hZ (hw _ (own_m 265 rfl)) (hw _ (own_m 68 rfl)) (by decide) (by decide)) (g := (mkF m 6 #[.val (.ref r0), .val (.ref r1), .val (.ref r2)] [(.ref r1), (.ref r0)])) rfl (by rw [hml]; rfl) (argsL := [(.ref r1)]) (rest := [(.ref r0)]) (lenOf own_pd380 rfl) rfl (by show 2 * 0 + _ ≤ _; exact Nat.le_of_eq rfl) (hb hby own_d48_6) (fun _ _ => ⟨rfl, eh1, (by decide : 0 + 0 ≤ _), (by decide : 0 + 0 ≤ _)⟩)
  dsimp only [Pt.U, Pt.locs, Pt.cells, Pt.slots] at X2 l2 y2 z2 st2 hQ2
  subst l2 y2 z2
  obtain ⟨rfl, N2q, eh2⟩ := hQ2
  have N2 := Fr.app N1 N2q
  refine Good.back st2 ?_
  obtain ⟨T3, h3, X3, e3, W3, st3⟩ := putF X2 hx hZ hown (host := "") (Or.inl (hw _ (own_m 266 rfl))) Via.refl eh2 F_r0_e0 E0 (Or.inr ⟨(hw _ (own_m 267 rfl)), rfl, hnm⟩) (hw _ (own_m 243 rfl)) (ty := (.object "java/lang/Object")) (by decide) rfl rfl (g := (mkF m 9 #[.val (.ref r0), .val (.ref r1), .val (.ref r2)] [(.ref r1), (.ref r0)])) rfl rfl (hb hby own_d48_9)
  refine Good.back st3 ?_
  have f_4 : Fld Z h3 r0 "java/util/ImmutableCollections$List12" "e0" "Ljava/lang/Object;" (.ref r1) := Fld.same W3 F_r0_e0
  have N3 := Fr.snoc X3 N2 g0
  have Z5 : n0 ≤ h3.size := Nat.le_trans Z0 (Keep.of_wr W3).1
  have K6 : Keep h0 h3 [r0] := KR.wr W3 (Or.inl (List.mem_of_getElem? (i := 0) rfl))
  refine Good.back (fun _ k => XS.aloadN X3.here hx rfl (hb hby own_d48_12) rfl rfl k) ?_
  refine Good.back (fun _ k => XS.aloadN X3.here hx rfl (hb hby own_d48_13) rfl rfl k) ?_
  obtain ⟨_, _, ⟨T7, L7, k7, n7⟩, -, X7, ⟨Lc7, hQ7, l7, y7, z7⟩, st7⟩ := Jvm.LawKit.callS X3 hx (y := (⟨"java/util/Objects", "requireNonNull", "(Ljava/lang/Object;)Ljava/lang/Object;"⟩ : MethodName)) hown (mvT hZ (hw _ (own_m 263 rfl))) (mvT hZ (hw _ (own_m 264 rfl))) (mvT hZ (hw _ (own_m 68 rfl))) (mvT hZ (hw _ (own_m 265 rfl))) (by decide) (backOf (W := 1) (rm42 l Z a0 hw [] r2  h3 n0 Z5 ) hZ (hw _ (own_m 265 rfl)) (hw _ (own_m 68 rfl)) (by decide) (by decide)) (g := (mkF m 14 #[.val (.ref r0), .val (.ref r1), .val (.ref r2)] [(.ref r2), (.ref r0)])) rfl (by rw [hml]; rfl) (argsL := [(.ref r2)]) (rest := [(.ref r0)]) (lenOf own_pd380 rfl) rfl (by show 2 * 0 + _ ≤ _; exact Nat.le_of_eq rfl) (hb hby own_d48_14) (fun _ _ => ⟨rfl, e3, (by decide : 0 + 0 ≤ _), (by decide : 0 + 0 ≤ _)⟩)
  dsimp only [Pt.U, Pt.locs, Pt.cells, Pt.slots] at X7 l7 y7 z7 st7 hQ7
  subst l7 y7 z7
  obtain ⟨rfl, N7q, eh7⟩ := hQ7
  have N7 := Fr.app N3 N7q
  refine Good.back st7 ?_
  have f_8 : Fld Z h3 r0 "java/util/ImmutableCollections$List12" "e1" "Ljava/lang/Object;" .null := Fld.other W3 F_r0_e1 (Or.inr (slot_ne (Or.inr (hw _ (own_m 270 rfl))) (Or.inr (hw _ (own_m 267 rfl))) (by decide) (t := (.object "java/lang/Object")) (t' := (.object "java/lang/Object")) (by decide) (by decide)))
  have f_9 : Exa Z h3 r0 "java/util/ImmutableCollections$List12" := Exa.wr W3 E0
  obtain ⟨T10, h10, X10, e10, W10, st10⟩ := putF X7 hx hZ hown (host := "") (Or.inl (hw _ (own_m 269 rfl))) Via.refl eh7 f_8 f_9 (Or.inr ⟨(hw _ (own_m 270 rfl)), rfl, hnm⟩) (hw _ (own_m 243 rfl)) (ty := (.object "java/lang/Object")) (by decide) rfl rfl (g := (mkF m 17 #[.val (.ref r0), .val (.ref r1), .val (.ref r2)] [(.ref r2), (.ref r0)])) rfl rfl (hb hby own_d48_17)
  refine Good.back st10 ?_
  have f_11 : Fld Z h10 r0 "java/util/ImmutableCollections$List12" "e1" "Ljava/lang/Object;" (.ref r2) := Fld.same W10 f_8
  have N10 := Fr.snoc X10 N7 g0
  have Z12 : n0 ≤ h10.size := Nat.le_trans Z5 (Keep.of_wr W10).1
  have K13 : Keep h0 h10 [r0] := K6.wr W10 (Or.inl (List.mem_of_getElem? (i := 0) rfl))
  show Good p e below _ (T10.setTop (mkF m 20 #[.val (.ref r0), .val (.ref r1), .val (.ref r2)] []))
  obtain ⟨fs14, hr14, hrun14, hended14, hW14, hsame14⟩ := X10.leave (v := none) (fun _ => rfl)
  refine Good.done (X10.returnOut hx Bd.returns (hb hby own_d48_20) hr14) hrun14 hended14 ⟨_, _, rfl, ?_, ⟨_, rfl⟩, hW14, hsame14.mono (by decide) (by decide)⟩
  show Q48 Z r0 r1 r2 h0 n0 _ T10.heap _
  rw [e10]
  have f_15 : Fld Z h10 r0 "java/util/ImmutableCollections$List12" "e0" "Ljava/lang/Object;" (.ref r1) := Fld.other W10 f_4 (Or.inr (slot_ne (Or.inr (hw _ (own_m 267 rfl))) (Or.inr (hw _ (own_m 270 rfl))) (by decide) (t := (.object "java/lang/Object")) (t' := (.object "java/lang/Object")) (by decide) (by decide)))
  exact ⟨rfl, N10, K13, f_15, f_11⟩
theorem own_pn16 : plainName "java/util/ImmutableCollections$ListN" = true := by first | (simp [plainName, overriddenIn]; done) | decide +kernel
theorem own_d46_0 : decode jdk_45_method_1_code 0 = .ok (.aload_n 0, 1) := by decide +kernel
theorem own_d46_1 : decode jdk_45_method_1_code 1 = .ok (.invokespecial 1, 3) := by decide +kernel
theorem own_d46_4 : decode jdk_45_method_1_code 4 = .ok (.aload_n 0, 1) := by decide +kernel
theorem own_d46_5 : decode jdk_45_method_1_code 5 = .ok (.aload_n 1, 1) := by decide +kernel
theorem own_d46_6 : decode jdk_45_method_1_code 6 = .ok (.putfield 7, 3) := by decide +kernel
theorem own_d46_9 : decode jdk_45_method_1_code 9 = .ok (.aload_n 0, 1) := by decide +kernel
theorem own_d46_10 : decode jdk_45_method_1_code 10 = .ok (.iload_n 2, 1) := by decide +kernel
theorem own_d46_11 : decode jdk_45_method_1_code 11 = .ok (.putfield 13, 3) := by decide +kernel
theorem own_d46_14 : decode jdk_45_method_1_code 14 = .ok (.return_, 1) := by decide +kernel
theorem own_ef_46 (m : MethodId) (x0 : Addr) (x1 : Addr) (x2 : Int32) : entryFrame m #[(.ref x0), (.ref x1), (.int x2)] 3 = mkF m 0 #[.val (.ref x0), .val (.ref x1), .val (.int x2)] [] := by first | (simp [entryFrame, mkF, argsToLocals, Value.category]; done) | rfl
def Q46 (Z : State) (r0 : Addr) (r1 : Addr) (h0 : Heap) (n0 : Nat) (v : Option Value) (h : Heap) (L : List Loc) : Prop := v = none ∧ Fr n0 L ∧ Keep h0 h [r0] ∧ Fld Z h r0 "java/util/ImmutableCollections$ListN" "elements" "[Ljava/lang/Object;" (.ref r1)
set_option maxRecDepth 65536 in
set_option maxHeartbeats 40000000 in
theorem rm46 (l : Launch) (Z : State) (a0 : Array Value) (hw : ∀ d ∈ tables_1, d.before a0 Z = true) (ws : List Jvm.Cond) (r0 : Addr) (r1 : Addr) (h0 : Heap) (n0 : Nat) (Z0 : n0 ≤ h0.size) (E0 : Exa Z h0 r0 "java/util/ImmutableCollections$ListN") (g0 : n0 ≤ r0) (F_r0_elements : Fld Z h0 r0 "java/util/ImmutableCollections$ListN" "elements" "[Ljava/lang/Object;" .null) (F_r0_allowNulls : Fld Z h0 r0 "java/util/ImmutableCollections$ListN" "allowNulls" "Z" (.int (0 : Int32))) :
    MetFree l (⟨"java/util/ImmutableCollections$ListN", "<init>", "([Ljava/lang/Object;Z)V"⟩ : MethodName) (head1 (Jvm.Cond.code (⟨"java/util/ImmutableCollections$ListN", "<init>", "([Ljava/lang/Object;Z)V"⟩ : MethodName) jdk_45_method_1_code 3 none :: ws) ({ frames := 4, cells := 0, slots := 0, locals := 48 } : Room)) (fun a U => a = #[(.ref r0), (.ref r1), (.int (0 : Int32))] ∧ Z.Warmed39 U.vm ∧ U.heap = h0) (fun _ _ _ _ _ => True) (fun _ U o U' => ∃ v L, o = .returned v ∧ Q46 Z r0 r1 h0 n0 v U'.heap L ∧ FrameEnd U o U' L ({ frames := 4, cells := 0, slots := 0, locals := 48 } : Room).cells ({ frames := 4, cells := 0, slots := 0, locals := 48 } : Room).slots) := by
  refine MetFree.of_bodySF (plainFor_of_name own_pn16) hisR ?_
  intro p e s m args below meth c s₁ Bd hml0 hP hK
  obtain ⟨rfl, hZ, hh⟩ := hP
  have hx := Bd.exec
  have hby := Bd.bytes
  have hml : c.maxLocals = 3 := hml0
  have hown : s.vm.findClass "java/util/ImmutableCollections$ListN" = some m.cls := findClass_of_methodNamed Bd.named
  have hnm := (name_of_methodNamed Bd.named Bd.method).1
  have X0 : Stand p l e ({ frames := 4, cells := 0, slots := 0, locals := 48 } : Room) s m #[(.ref r0), (.ref r1), (.int (0 : Int32))] below meth c s₁ [] 0 0 := Stand.of_body Bd
  have e0 : s₁.heap = h0 := by rw [← hh, Bd.state]; rfl
  have N0 := Fr.nil n0
  have KR : Keep h0 h0 [r0] := Keep.refl h0 _
  show Good p e below (fun o U' => ∃ v L, o = .returned v ∧ Q46 Z r0 r1 h0 n0 v U'.heap L ∧ FrameEnd s o U' L ({ frames := 4, cells := 0, slots := 0, locals := 48 } : Room).cells ({ frames := 4, cells := 0, slots := 0, locals := 48 } : Room).slots) _
  refine Good.back (S' := s₁.setTop (mkF m 0 #[.val (.ref r0), .val (.ref r1), .val (.int (0 : Int32))] [])) (fun t k => castTop (own_ef_46 m r0 r1 (0 : Int32)) k) ?_
  show Good p e below _ (s₁.setTop (mkF m 0 #[.val (.ref r0), .val (.ref r1), .val (.int (0 : Int32))] []))
  refine Good.back (fun _ k => XS.aloadN X0.here hx rfl (hb hby own_d46_0) rfl rfl k) ?_
  obtain ⟨_, _, ⟨T1, L1, k1, n1⟩, -, X1, ⟨Lc1, hQ1, l1, y1, z1⟩, st1⟩ := X0.specialBack hx (y := (⟨"java/util/ImmutableCollections$AbstractImmutableList", "<init>", "()V"⟩ : MethodName)) rfl hown (mvT hZ (hw _ (own_m 295 rfl))) (mvT hZ (hw _ (own_m 250 rfl))) (mvT hZ (hw _ (own_m 254 rfl))) (by decide) (backOf (W := 0) (rm40 l Z a0 hw [] r0  h0 n0 Z0 ) hZ (hw _ (own_m 254 rfl)) (hw _ (own_m 253 rfl)) (by decide) (by decide)) (g := (mkF m 1 #[.val (.ref r0), .val (.ref r1), .val (.int (0 : Int32))] [(.ref r0)])) rfl (by rw [hml]; rfl) (Steps.refl _) (a := r0) (argsL := []) (rest := []) (lenOf own_pd122 rfl) rfl (by show 2 * 0 + _ ≤ _; exact Nat.le_of_eq rfl) (hb hby own_d46_1) (fun _ _ => ⟨rfl, e0, (by decide : 0 + 0 ≤ _), (by decide : 0 + 0 ≤ _)⟩)
  dsimp only [Pt.U, Pt.locs, Pt.cells, Pt.slots] at X1 l1 y1 z1 st1 hQ1
  subst l1 y1 z1
  obtain ⟨rfl, N1q, eh1⟩ := hQ1
  have N1 := Fr.app N0 N1q
  refine Good.back (fun _ k => st1.trans k) ?_
  refine Good.back (fun _ k => XS.aloadN X1.here hx rfl (hb hby own_d46_4) rfl rfl k) ?_
  refine Good.back (fun _ k => XS.aloadN X1.here hx rfl (hb hby own_d46_5) rfl rfl k) ?_
  obtain ⟨T2, h2, X2, e2, W2, st2⟩ := putF X1 hx hZ hown (host := "") (Or.inl (hw _ (own_m 152 rfl))) Via.refl eh1 F_r0_elements E0 (Or.inr ⟨(hw _ (own_m 153 rfl)), rfl, hnm⟩) (hw _ (own_m 290 rfl)) (ty := (.array (.object "java/lang/Object"))) (by decide) rfl rfl (g := (mkF m 6 #[.val (.ref r0), .val (.ref r1), .val (.int (0 : Int32))] [(.ref r1), (.ref r0)])) rfl rfl (hb hby own_d46_6)
  refine Good.back st2 ?_
  have f_3 : Fld Z h2 r0 "java/util/ImmutableCollections$ListN" "elements" "[Ljava/lang/Object;" (.ref r1) := Fld.same W2 F_r0_elements
  have N2 := Fr.snoc X2 N1 g0
  have Z4 : n0 ≤ h2.size := Nat.le_trans Z0 (Keep.of_wr W2).1
  have K5 : Keep h0 h2 [r0] := KR.wr W2 (Or.inl (List.mem_of_getElem? (i := 0) rfl))
  refine Good.back (fun _ k => XS.aloadN X2.here hx rfl (hb hby own_d46_9) rfl rfl k) ?_
  refine Good.back (fun _ k => XS.iloadN X2.here hx rfl (hb hby own_d46_10) rfl k) ?_
  have f_6 : Fld Z h2 r0 "java/util/ImmutableCollections$ListN" "allowNulls" "Z" (.int (0 : Int32)) := Fld.other W2 F_r0_allowNulls (Or.inr (slot_ne (Or.inr (hw _ (own_m 300 rfl))) (Or.inr (hw _ (own_m 153 rfl))) (by decide) (t := .boolean) (t' := (.array (.object "java/lang/Object"))) (by decide) (by decide)))
  have f_7 : Exa Z h2 r0 "java/util/ImmutableCollections$ListN" := Exa.wr W2 E0
  obtain ⟨T8, h8, X8, e8, W8, st8⟩ := putFN X2 hx hZ hown (hw _ (own_m 299 rfl)) Via.refl e2 f_6 f_7 (Or.inr ⟨(hw _ (own_m 300 rfl)), rfl, hnm⟩) (hw _ (own_m 290 rfl)) (ty := .boolean) (v' := (.int (0 : Int32))) (by decide) rfl (by decide) (g := (mkF m 11 #[.val (.ref r0), .val (.ref r1), .val (.int (0 : Int32))] [(.int (0 : Int32)), (.ref r0)])) rfl rfl (hb hby own_d46_11)
  refine Good.back st8 ?_
  have f_9 : Fld Z h8 r0 "java/util/ImmutableCollections$ListN" "allowNulls" "Z" (.int (0 : Int32)) := Fld.same W8 f_6
  have N8 := Fr.snoc X8 N2 g0
  have Z10 : n0 ≤ h8.size := Nat.le_trans Z4 (Keep.of_wr W8).1
  have K11 : Keep h0 h8 [r0] := K5.wr W8 (Or.inl (List.mem_of_getElem? (i := 0) rfl))
  show Good p e below _ (T8.setTop (mkF m 14 #[.val (.ref r0), .val (.ref r1), .val (.int (0 : Int32))] []))
  obtain ⟨fs12, hr12, hrun12, hended12, hW12, hsame12⟩ := X8.leave (v := none) (fun _ => rfl)
  refine Good.done (X8.returnOut hx Bd.returns (hb hby own_d46_14) hr12) hrun12 hended12 ⟨_, _, rfl, ?_, ⟨_, rfl⟩, hW12, hsame12.mono (by decide) (by decide)⟩
  show Q46 Z r0 r1 h0 n0 _ T8.heap _
  rw [e8]
  have f_13 : Fld Z h8 r0 "java/util/ImmutableCollections$ListN" "elements" "[Ljava/lang/Object;" (.ref r1) := Fld.other W8 f_3 (Or.inr (slot_ne (Or.inr (hw _ (own_m 153 rfl))) (Or.inr (hw _ (own_m 300 rfl))) (by decide) (t := (.array (.object "java/lang/Object"))) (t' := .boolean) (by decide) (by decide)))
  exact ⟨rfl, N8, K11, f_13⟩
theorem own_d24_0 : decode jdk_45_method_3_code 0 = .ok (.aload_n 0, 1) := by decide +kernel
theorem own_d24_1 : decode jdk_45_method_3_code 1 = .ok (.getfield 7, 3) := by decide +kernel
theorem own_d24_4 : decode jdk_45_method_3_code 4 = .ok (.arraylength, 1) := by decide +kernel
theorem own_d24_5 : decode jdk_45_method_3_code 5 = .ok (.ireturn, 1) := by decide +kernel
theorem own_ef_24_0 (m : MethodId) (x0 : Addr) : entryFrame m #[(.ref x0)] 1 = mkF m 0 #[.val (.ref x0)] [] := by first | (simp [entryFrame, mkF, argsToLocals, Value.category]; done) | rfl
def Q24_0 (Z : State) (r0 : Addr) (ea : Addr) (ke : ClassId) (h0 : Heap) (n0 : Nat) (v : Option Value) (h : Heap) (L : List Loc) : Prop := v = some (.int (0 : Int32)) ∧ Fr n0 L ∧ h = h0
set_option maxRecDepth 65536 in
set_option maxHeartbeats 40000000 in
theorem rm24_0 (l : Launch) (Z : State) (a0 : Array Value) (hw : ∀ d ∈ tables_1, d.before a0 Z = true) (ws : List Jvm.Cond) (r0 : Addr) (ea : Addr) (ke : ClassId) (h0 : Heap) (n0 : Nat) (Z0 : n0 ≤ h0.size) (F_r0_elements : Fld Z h0 r0 "java/util/ImmutableCollections$ListN" "elements" "[Ljava/lang/Object;" (.ref ea)) (Ve : Arv Z h0 ea ke (.object "java/lang/Object") (0 : Int32) [] .null) :
    MetFree l (⟨"java/util/ImmutableCollections$ListN", "size", "()I"⟩ : MethodName) (head1 (Jvm.Cond.code (⟨"java/util/ImmutableCollections$ListN", "size", "()I"⟩ : MethodName) jdk_45_method_3_code 1 (some .int) :: ws) ({ frames := 0, cells := 0, slots := 0, locals := 0 } : Room)) (fun a U => a = #[(.ref r0)] ∧ Z.Warmed39 U.vm ∧ U.heap = h0) (fun _ _ _ _ _ => True) (fun _ U o U' => ∃ v L, o = .returned v ∧ Q24_0 Z r0 ea ke h0 n0 v U'.heap L ∧ FrameEnd U o U' L ({ frames := 0, cells := 0, slots := 0, locals := 0 } : Room).cells ({ frames := 0, cells := 0, slots := 0, locals := 0 } : Room).slots) := by
  refine MetFree.of_bodySF (plainFor_of_name own_pn16) hisR ?_
  intro p e s m args below meth c s₁ Bd hml0 hP hK
  obtain ⟨rfl, hZ, hh⟩ := hP
  have hx := Bd.exec
  have hby := Bd.bytes
  have hml : c.maxLocals = 1 := hml0
  have hown : s.vm.findClass "java/util/ImmutableCollections$ListN" = some m.cls := findClass_of_methodNamed Bd.named
  have hnm := (name_of_methodNamed Bd.named Bd.method).1
  have X0 : Stand p l e ({ frames := 0, cells := 0, slots := 0, locals := 0 } : Room) s m #[(.ref r0)] below meth c s₁ [] 0 0 := Stand.of_body Bd
  have e0 : s₁.heap = h0 := by rw [← hh, Bd.state]; rfl
  have N0 := Fr.nil n0
  show Good p e below (fun o U' => ∃ v L, o = .returned v ∧ Q24_0 Z r0 ea ke h0 n0 v U'.heap L ∧ FrameEnd s o U' L ({ frames := 0, cells := 0, slots := 0, locals := 0 } : Room).cells ({ frames := 0, cells := 0, slots := 0, locals := 0 } : Room).slots) _
  refine Good.back (S' := s₁.setTop (mkF m 0 #[.val (.ref r0)] [])) (fun t k => castTop (own_ef_24_0 m r0) k) ?_
  show Good p e below _ (s₁.setTop (mkF m 0 #[.val (.ref r0)] []))
  refine Good.back (fun _ k => XS.aloadN X0.here hx rfl (hb hby own_d24_0) rfl rfl k) ?_
  obtain ⟨T1, X1, e1, st1⟩ := getF X0 hx hZ hown (host := "") (Or.inl (hw _ (own_m 152 rfl))) Via.refl e0 F_r0_elements (g := (mkF m 1 #[.val (.ref r0)] [(.ref r0)])) rfl rfl (hb hby own_d24_1)
  refine Good.back st1 ?_
  have fc2 := Ve
  obtain ⟨cl2, Ar2, qk2, S2, N2', H2, G2⟩ := fc2
  refine Good.back (X1.arraylength hx (by rw [e1]; exact Ar2.1) (State.isArrayOf_alike hZ.alike Ar2.2.1) (g := (mkF m 4 #[.val (.ref r0)] [(.ref ea)])) rfl rfl (hb hby own_d24_4)) ?_
  rw [len_of S2 N2']
  show Good p e below _ (T1.setTop (mkF m 5 #[.val (.ref r0)] [(.int (0 : Int32))]))
  obtain ⟨fs3, hr3, hrun3, hended3, hW3, hsame3⟩ := X1.leave (v := some (.int (0 : Int32))) (fun h => by rw [Bd.returns] at h; cases h)
  refine Good.done (retI X1 hx Bd.returns (hb hby own_d24_5) hr3) hrun3 hended3 ⟨_, _, rfl, ?_, ⟨_, rfl⟩, hW3, hsame3.mono (by decide) (by decide)⟩
  show Q24_0 Z r0 ea ke h0 n0 _ T1.heap _
  rw [e1]
  exact ⟨rfl, N0, rfl⟩
theorem own_ef_24_3 (m : MethodId) (x0 : Addr) : entryFrame m #[(.ref x0)] 1 = mkF m 0 #[.val (.ref x0)] [] := by first | (simp [entryFrame, mkF, argsToLocals, Value.category]; done) | rfl
def Q24_3 (Z : State) (r0 : Addr) (ea : Addr) (ke : ClassId) (x0 : Addr) (x1 : Addr) (x2 : Addr) (h0 : Heap) (n0 : Nat) (v : Option Value) (h : Heap) (L : List Loc) : Prop := v = some (.int (3 : Int32)) ∧ Fr n0 L ∧ h = h0
set_option maxRecDepth 65536 in
set_option maxHeartbeats 40000000 in
theorem rm24_3 (l : Launch) (Z : State) (a0 : Array Value) (hw : ∀ d ∈ tables_1, d.before a0 Z = true) (ws : List Jvm.Cond) (r0 : Addr) (ea : Addr) (ke : ClassId) (x0 : Addr) (x1 : Addr) (x2 : Addr) (h0 : Heap) (n0 : Nat) (Z0 : n0 ≤ h0.size) (F_r0_elements : Fld Z h0 r0 "java/util/ImmutableCollections$ListN" "elements" "[Ljava/lang/Object;" (.ref ea)) (Ve : Arv Z h0 ea ke (.object "java/lang/Object") (3 : Int32) [(.ref x0), (.ref x1), (.ref x2)] .null) :
    MetFree l (⟨"java/util/ImmutableCollections$ListN", "size", "()I"⟩ : MethodName) (head1 (Jvm.Cond.code (⟨"java/util/ImmutableCollections$ListN", "size", "()I"⟩ : MethodName) jdk_45_method_3_code 1 (some .int) :: ws) ({ frames := 0, cells := 0, slots := 0, locals := 0 } : Room)) (fun a U => a = #[(.ref r0)] ∧ Z.Warmed39 U.vm ∧ U.heap = h0) (fun _ _ _ _ _ => True) (fun _ U o U' => ∃ v L, o = .returned v ∧ Q24_3 Z r0 ea ke x0 x1 x2 h0 n0 v U'.heap L ∧ FrameEnd U o U' L ({ frames := 0, cells := 0, slots := 0, locals := 0 } : Room).cells ({ frames := 0, cells := 0, slots := 0, locals := 0 } : Room).slots) := by
  refine MetFree.of_bodySF (plainFor_of_name own_pn16) hisR ?_
  intro p e s m args below meth c s₁ Bd hml0 hP hK
  obtain ⟨rfl, hZ, hh⟩ := hP
  have hx := Bd.exec
  have hby := Bd.bytes
  have hml : c.maxLocals = 1 := hml0
  have hown : s.vm.findClass "java/util/ImmutableCollections$ListN" = some m.cls := findClass_of_methodNamed Bd.named
  have hnm := (name_of_methodNamed Bd.named Bd.method).1
  have X0 : Stand p l e ({ frames := 0, cells := 0, slots := 0, locals := 0 } : Room) s m #[(.ref r0)] below meth c s₁ [] 0 0 := Stand.of_body Bd
  have e0 : s₁.heap = h0 := by rw [← hh, Bd.state]; rfl
  have N0 := Fr.nil n0
  show Good p e below (fun o U' => ∃ v L, o = .returned v ∧ Q24_3 Z r0 ea ke x0 x1 x2 h0 n0 v U'.heap L ∧ FrameEnd s o U' L ({ frames := 0, cells := 0, slots := 0, locals := 0 } : Room).cells ({ frames := 0, cells := 0, slots := 0, locals := 0 } : Room).slots) _
  refine Good.back (S' := s₁.setTop (mkF m 0 #[.val (.ref r0)] [])) (fun t k => castTop (own_ef_24_3 m r0) k) ?_
  show Good p e below _ (s₁.setTop (mkF m 0 #[.val (.ref r0)] []))
  refine Good.back (fun _ k => XS.aloadN X0.here hx rfl (hb hby own_d24_0) rfl rfl k) ?_
  obtain ⟨T1, X1, e1, st1⟩ := getF X0 hx hZ hown (host := "") (Or.inl (hw _ (own_m 152 rfl))) Via.refl e0 F_r0_elements (g := (mkF m 1 #[.val (.ref r0)] [(.ref r0)])) rfl rfl (hb hby own_d24_1)
  refine Good.back st1 ?_
  have fc2 := Ve
  obtain ⟨cl2, Ar2, qk2, S2, N2', H2, G2⟩ := fc2
  refine Good.back (X1.arraylength hx (by rw [e1]; exact Ar2.1) (State.isArrayOf_alike hZ.alike Ar2.2.1) (g := (mkF m 4 #[.val (.ref r0)] [(.ref ea)])) rfl rfl (hb hby own_d24_4)) ?_
  rw [len_of S2 N2']
  show Good p e below _ (T1.setTop (mkF m 5 #[.val (.ref r0)] [(.int (3 : Int32))]))
  obtain ⟨fs3, hr3, hrun3, hended3, hW3, hsame3⟩ := X1.leave (v := some (.int (3 : Int32))) (fun h => by rw [Bd.returns] at h; cases h)
  refine Good.done (retI X1 hx Bd.returns (hb hby own_d24_5) hr3) hrun3 hended3 ⟨_, _, rfl, ?_, ⟨_, rfl⟩, hW3, hsame3.mono (by decide) (by decide)⟩
  show Q24_3 Z r0 ea ke x0 x1 x2 h0 n0 _ T1.heap _
  rw [e1]
  exact ⟨rfl, N0, rfl⟩
theorem own_d43_0 : decode jdk_44_method_3_code 0 = .ok (.aload_n 0, 1) := by decide +kernel
theorem own_d43_1 : decode jdk_44_method_3_code 1 = .ok (.getfield 24, 3) := by decide +kernel
theorem own_d43_4 : decode jdk_44_method_3_code 4 = .ok (.getstatic 19, 3) := by decide +kernel
theorem own_d43_7 : decode jdk_44_method_3_code 7 = .ok (.if_acmp .eq 7, 3) := by decide +kernel
theorem own_d43_14 : decode jdk_44_method_3_code 14 = .ok (.iconst 1, 1) := by decide +kernel
theorem own_d43_15 : decode jdk_44_method_3_code 15 = .ok (.ireturn, 1) := by decide +kernel
theorem own_ef_43_1 (m : MethodId) (x0 : Addr) : entryFrame m #[(.ref x0)] 1 = mkF m 0 #[.val (.ref x0)] [] := by first | (simp [entryFrame, mkF, argsToLocals, Value.category]; done) | rfl
def Q43_1 (Z : State) (r0 : Addr) (em : Addr) (h0 : Heap) (n0 : Nat) (v : Option Value) (h : Heap) (L : List Loc) : Prop := v = some (.int (1 : Int32)) ∧ Fr n0 L ∧ h = h0
set_option maxRecDepth 65536 in
set_option maxHeartbeats 40000000 in
theorem rm43_1 (l : Launch) (Z : State) (a0 : Array Value) (hw : ∀ d ∈ tables_1, d.before a0 Z = true) (ws : List Jvm.Cond) (r0 : Addr) (em : Addr) (h0 : Heap) (n0 : Nat) (Z0 : n0 ≤ h0.size) (F_r0_e1 : Fld Z h0 r0 "java/util/ImmutableCollections$List12" "e1" "Ljava/lang/Object;" (.ref em)) (S_em : Sta Z h0 "java/util/ImmutableCollections" "EMPTY" "Ljava/lang/Object;" (.ref em)) :
    MetFree l (⟨"java/util/ImmutableCollections$List12", "size", "()I"⟩ : MethodName) (head1 (Jvm.Cond.code (⟨"java/util/ImmutableCollections$List12", "size", "()I"⟩ : MethodName) jdk_44_method_3_code 1 (some .int) :: ws) ({ frames := 0, cells := 0, slots := 0, locals := 0 } : Room)) (fun a U => a = #[(.ref r0)] ∧ Z.Warmed39 U.vm ∧ U.heap = h0) (fun _ _ _ _ _ => True) (fun _ U o U' => ∃ v L, o = .returned v ∧ Q43_1 Z r0 em h0 n0 v U'.heap L ∧ FrameEnd U o U' L ({ frames := 0, cells := 0, slots := 0, locals := 0 } : Room).cells ({ frames := 0, cells := 0, slots := 0, locals := 0 } : Room).slots) := by
  refine MetFree.of_bodySF (plainFor_of_name own_pn15) hisR ?_
  intro p e s m args below meth c s₁ Bd hml0 hP hK
  obtain ⟨rfl, hZ, hh⟩ := hP
  have hx := Bd.exec
  have hby := Bd.bytes
  have hml : c.maxLocals = 1 := hml0
  have hown : s.vm.findClass "java/util/ImmutableCollections$List12" = some m.cls := findClass_of_methodNamed Bd.named
  have hnm := (name_of_methodNamed Bd.named Bd.method).1
  have X0 : Stand p l e ({ frames := 0, cells := 0, slots := 0, locals := 0 } : Room) s m #[(.ref r0)] below meth c s₁ [] 0 0 := Stand.of_body Bd
  have e0 : s₁.heap = h0 := by rw [← hh, Bd.state]; rfl
  have N0 := Fr.nil n0
  show Good p e below (fun o U' => ∃ v L, o = .returned v ∧ Q43_1 Z r0 em h0 n0 v U'.heap L ∧ FrameEnd s o U' L ({ frames := 0, cells := 0, slots := 0, locals := 0 } : Room).cells ({ frames := 0, cells := 0, slots := 0, locals := 0 } : Room).slots) _
  refine Good.back (S' := s₁.setTop (mkF m 0 #[.val (.ref r0)] [])) (fun t k => castTop (own_ef_43_1 m r0) k) ?_
  show Good p e below _ (s₁.setTop (mkF m 0 #[.val (.ref r0)] []))
  refine Good.back (fun _ k => XS.aloadN X0.here hx rfl (hb hby own_d43_0) rfl rfl k) ?_
  obtain ⟨T1, X1, e1, st1⟩ := getF X0 hx hZ hown (host := "") (Or.inl (hw _ (own_m 269 rfl))) Via.refl e0 F_r0_e1 (g := (mkF m 1 #[.val (.ref r0)] [(.ref r0)])) rfl rfl (hb hby own_d43_1)
  refine Good.back st1 ?_
  obtain ⟨T2, X2, e2, st2⟩ := getS2 X1 hx hZ hown (Or.inr (hw _ (own_m 268 rfl))) Via.refl e1 S_em (g := (mkF m 4 #[.val (.ref r0)] [(.ref em)])) rfl (hb hby own_d43_4)
  refine Good.back st2 ?_
  show Good p e below _ (T2.setTop (mkF m 7 #[.val (.ref r0)] [(.ref em), (.ref em)]))
  refine Good.back (fun _ k => Jvm.RoadKit.acmp (g := (mkF m 7 #[.val (.ref r0)] [(.ref em), (.ref em)])) X2 hx rfl rfl rfl (pc0 := 7) (pc' := 14) (same := true) rfl (hb hby own_d43_7) rfl (decide_eq_true rfl) (by decide) (by decide) k) ?_
  show Good p e below _ (T2.setTop (mkF m 14 #[.val (.ref r0)] []))
  refine Good.back (fun _ k => XS.iconst X2.here hx rfl (hb hby own_d43_14) k) ?_
  show Good p e below _ (T2.setTop (mkF m 15 #[.val (.ref r0)] [(.int (1 : Int32))]))
  obtain ⟨fs3, hr3, hrun3, hended3, hW3, hsame3⟩ := X2.leave (v := some (.int (1 : Int32))) (fun h => by rw [Bd.returns] at h; cases h)
  refine Good.done (retI X2 hx Bd.returns (hb hby own_d43_15) hr3) hrun3 hended3 ⟨_, _, rfl, ?_, ⟨_, rfl⟩, hW3, hsame3.mono (by decide) (by decide)⟩
  show Q43_1 Z r0 em h0 n0 _ T2.heap _
  rw [e2]
  exact ⟨rfl, N0, rfl⟩
theorem own_d43_10 : decode jdk_44_method_3_code 10 = .ok (.iconst 2, 1) := by decide +kernel
theorem own_d43_11 : decode jdk_44_method_3_code 11 = .ok (.goto 4, 3) := by decide +kernel
theorem own_ef_43_2 (m : MethodId) (x0 : Addr) : entryFrame m #[(.ref x0)] 1 = mkF m 0 #[.val (.ref x0)] [] := by first | (simp [entryFrame, mkF, argsToLocals, Value.category]; done) | rfl
def Q43_2 (Z : State) (r0 : Addr) (em : Addr) (x1 : Addr) (h0 : Heap) (n0 : Nat) (v : Option Value) (h : Heap) (L : List Loc) : Prop := v = some (.int (2 : Int32)) ∧ Fr n0 L ∧ h = h0
set_option maxRecDepth 65536 in
set_option maxHeartbeats 40000000 in
theorem rm43_2 (l : Launch) (Z : State) (a0 : Array Value) (hw : ∀ d ∈ tables_1, d.before a0 Z = true) (ws : List Jvm.Cond) (r0 : Addr) (em : Addr) (x1 : Addr) (h0 : Heap) (n0 : Nat) (Z0 : n0 ≤ h0.size) (F_r0_e1 : Fld Z h0 r0 "java/util/ImmutableCollections$List12" "e1" "Ljava/lang/Object;" (.ref x1)) (S_em : Sta Z h0 "java/util/ImmutableCollections" "EMPTY" "Ljava/lang/Object;" (.ref em)) (nem : x1 ≠ em) :
    MetFree l (⟨"java/util/ImmutableCollections$List12", "size", "()I"⟩ : MethodName) (head1 (Jvm.Cond.code (⟨"java/util/ImmutableCollections$List12", "size", "()I"⟩ : MethodName) jdk_44_method_3_code 1 (some .int) :: ws) ({ frames := 0, cells := 0, slots := 0, locals := 0 } : Room)) (fun a U => a = #[(.ref r0)] ∧ Z.Warmed39 U.vm ∧ U.heap = h0) (fun _ _ _ _ _ => True) (fun _ U o U' => ∃ v L, o = .returned v ∧ Q43_2 Z r0 em x1 h0 n0 v U'.heap L ∧ FrameEnd U o U' L ({ frames := 0, cells := 0, slots := 0, locals := 0 } : Room).cells ({ frames := 0, cells := 0, slots := 0, locals := 0 } : Room).slots) := by
  refine MetFree.of_bodySF (plainFor_of_name own_pn15) hisR ?_
  intro p e s m args below meth c s₁ Bd hml0 hP hK
  obtain ⟨rfl, hZ, hh⟩ := hP
  have hx := Bd.exec
  have hby := Bd.bytes
  have hml : c.maxLocals = 1 := hml0
  have hown : s.vm.findClass "java/util/ImmutableCollections$List12" = some m.cls := findClass_of_methodNamed Bd.named
  have hnm := (name_of_methodNamed Bd.named Bd.method).1
  have X0 : Stand p l e ({ frames := 0, cells := 0, slots := 0, locals := 0 } : Room) s m #[(.ref r0)] below meth c s₁ [] 0 0 := Stand.of_body Bd
  have e0 : s₁.heap = h0 := by rw [← hh, Bd.state]; rfl
  have N0 := Fr.nil n0
  show Good p e below (fun o U' => ∃ v L, o = .returned v ∧ Q43_2 Z r0 em x1 h0 n0 v U'.heap L ∧ FrameEnd s o U' L ({ frames := 0, cells := 0, slots := 0, locals := 0 } : Room).cells ({ frames := 0, cells := 0, slots := 0, locals := 0 } : Room).slots) _
  refine Good.back (S' := s₁.setTop (mkF m 0 #[.val (.ref r0)] [])) (fun t k => castTop (own_ef_43_2 m r0) k) ?_
  show Good p e below _ (s₁.setTop (mkF m 0 #[.val (.ref r0)] []))
  refine Good.back (fun _ k => XS.aloadN X0.here hx rfl (hb hby own_d43_0) rfl rfl k) ?_
  obtain ⟨T1, X1, e1, st1⟩ := getF X0 hx hZ hown (host := "") (Or.inl (hw _ (own_m 269 rfl))) Via.refl e0 F_r0_e1 (g := (mkF m 1 #[.val (.ref r0)] [(.ref r0)])) rfl rfl (hb hby own_d43_1)
  refine Good.back st1 ?_
  obtain ⟨T2, X2, e2, st2⟩ := getS2 X1 hx hZ hown (Or.inr (hw _ (own_m 268 rfl))) Via.refl e1 S_em (g := (mkF m 4 #[.val (.ref r0)] [(.ref x1)])) rfl (hb hby own_d43_4)
  refine Good.back st2 ?_
  show Good p e below _ (T2.setTop (mkF m 7 #[.val (.ref r0)] [(.ref em), (.ref x1)]))
  refine Good.back (fun _ k => Jvm.RoadKit.acmp (g := (mkF m 7 #[.val (.ref r0)] [(.ref em), (.ref x1)])) X2 hx rfl rfl rfl (pc0 := 7) (pc' := 10) (same := false) rfl (hb hby own_d43_7) rfl (decide_eq_false fun q => nem (Value.ref.inj q)) (by decide) (by decide) k) ?_
  show Good p e below _ (T2.setTop (mkF m 10 #[.val (.ref r0)] []))
  refine Good.back (fun _ k => XS.iconst X2.here hx rfl (hb hby own_d43_10) k) ?_
  show Good p e below _ (T2.setTop (mkF m 11 #[.val (.ref r0)] [(.int (2 : Int32))]))
  refine Good.back (fun _ k => XS.goto X2.here hx rfl (pc0 := 11) (pc' := 15) rfl (hb hby own_d43_11) (by decide) (by decide) k) ?_
  show Good p e below _ (T2.setTop (mkF m 15 #[.val (.ref r0)] [(.int (2 : Int32))]))
  obtain ⟨fs3, hr3, hrun3, hended3, hW3, hsame3⟩ := X2.leave (v := some (.int (2 : Int32))) (fun h => by rw [Bd.returns] at h; cases h)
  refine Good.done (retI X2 hx Bd.returns (hb hby own_d43_15) hr3) hrun3 hended3 ⟨_, _, rfl, ?_, ⟨_, rfl⟩, hW3, hsame3.mono (by decide) (by decide)⟩
  show Q43_2 Z r0 em x1 h0 n0 _ T2.heap _
  rw [e2]
  exact ⟨rfl, N0, rfl⟩
theorem own_d44_0 : decode jdk_44_method_5_code 0 = .ok (.iload_n 1, 1) := by decide +kernel
theorem own_d44_1 : decode jdk_44_method_5_code 1 = .ok (.ifCond .ne 8, 3) := by decide +kernel
theorem own_d44_4 : decode jdk_44_method_5_code 4 = .ok (.aload_n 0, 1) := by decide +kernel
theorem own_d44_5 : decode jdk_44_method_5_code 5 = .ok (.getfield 13, 3) := by decide +kernel
theorem own_d44_8 : decode jdk_44_method_5_code 8 = .ok (.areturn, 1) := by decide +kernel
theorem own_ef_44_0 (m : MethodId) (x0 : Addr) (x1 : Int32) : entryFrame m #[(.ref x0), (.int x1)] 2 = mkF m 0 #[.val (.ref x0), .val (.int x1)] [] := by first | (simp [entryFrame, mkF, argsToLocals, Value.category]; done) | rfl
def Q44_0 (Z : State) (r0 : Addr) (x0 : Addr) (h0 : Heap) (n0 : Nat) (v : Option Value) (h : Heap) (L : List Loc) : Prop := v = some (.ref x0) ∧ Fr n0 L ∧ h = h0
set_option maxRecDepth 65536 in
set_option maxHeartbeats 40000000 in
theorem rm44_0 (l : Launch) (Z : State) (a0 : Array Value) (hw : ∀ d ∈ tables_1, d.before a0 Z = true) (ws : List Jvm.Cond) (r0 : Addr) (x0 : Addr) (h0 : Heap) (n0 : Nat) (Z0 : n0 ≤ h0.size) (F_r0_e0 : Fld Z h0 r0 "java/util/ImmutableCollections$List12" "e0" "Ljava/lang/Object;" (.ref x0)) :
    MetFree l (⟨"java/util/ImmutableCollections$List12", "get", "(I)Ljava/lang/Object;"⟩ : MethodName) (head1 (Jvm.Cond.code (⟨"java/util/ImmutableCollections$List12", "get", "(I)Ljava/lang/Object;"⟩ : MethodName) jdk_44_method_5_code 2 (some (.object "java/lang/Object")) :: ws) ({ frames := 0, cells := 0, slots := 0, locals := 0 } : Room)) (fun a U => a = #[(.ref r0), (.int (0 : Int32))] ∧ Z.Warmed39 U.vm ∧ U.heap = h0) (fun _ _ _ _ _ => True) (fun _ U o U' => ∃ v L, o = .returned v ∧ Q44_0 Z r0 x0 h0 n0 v U'.heap L ∧ FrameEnd U o U' L ({ frames := 0, cells := 0, slots := 0, locals := 0 } : Room).cells ({ frames := 0, cells := 0, slots := 0, locals := 0 } : Room).slots) := by
  refine MetFree.of_bodySF (plainFor_of_name own_pn15) hisR ?_
  intro p e s m args below meth c s₁ Bd hml0 hP hK
  obtain ⟨rfl, hZ, hh⟩ := hP
  have hx := Bd.exec
  have hby := Bd.bytes
  have hml : c.maxLocals = 2 := hml0
  have hown : s.vm.findClass "java/util/ImmutableCollections$List12" = some m.cls := findClass_of_methodNamed Bd.named
  have hnm := (name_of_methodNamed Bd.named Bd.method).1
  have X0 : Stand p l e ({ frames := 0, cells := 0, slots := 0, locals := 0 } : Room) s m #[(.ref r0), (.int (0 : Int32))] below meth c s₁ [] 0 0 := Stand.of_body Bd
  have e0 : s₁.heap = h0 := by rw [← hh, Bd.state]; rfl
  have N0 := Fr.nil n0
  show Good p e below (fun o U' => ∃ v L, o = .returned v ∧ Q44_0 Z r0 x0 h0 n0 v U'.heap L ∧ FrameEnd s o U' L ({ frames := 0, cells := 0, slots := 0, locals := 0 } : Room).cells ({ frames := 0, cells := 0, slots := 0, locals := 0 } : Room).slots) _
  refine Good.back (S' := s₁.setTop (mkF m 0 #[.val (.ref r0), .val (.int (0 : Int32))] [])) (fun t k => castTop (own_ef_44_0 m r0 (0 : Int32)) k) ?_
  show Good p e below _ (s₁.setTop (mkF m 0 #[.val (.ref r0), .val (.int (0 : Int32))] []))
  refine Good.back (fun _ k => XS.iloadN X0.here hx rfl (hb hby own_d44_0) rfl k) ?_
  show Good p e below _ (s₁.setTop (mkF m 1 #[.val (.ref r0), .val (.int (0 : Int32))] [(.int (0 : Int32))]))
  refine Good.back (fun _ k => XS.ifNo X0.here hx rfl (hb hby own_d44_1) rfl ((if0 _ _).trans (teq (by decide : ((0 : Int32) = (0 : Int32)))).2) k) ?_
  show Good p e below _ (s₁.setTop (mkF m 4 #[.val (.ref r0), .val (.int (0 : Int32))] []))
  refine Good.back (fun _ k => XS.aloadN X0.here hx rfl (hb hby own_d44_4) rfl rfl k) ?_
  obtain ⟨T1, X1, e1, st1⟩ := getF X0 hx hZ hown (host := "") (Or.inl (hw _ (own_m 266 rfl))) Via.refl e0 F_r0_e0 (g := (mkF m 5 #[.val (.ref r0), .val (.int (0 : Int32))] [(.ref r0)])) rfl rfl (hb hby own_d44_5)
  refine Good.back st1 ?_
  show Good p e below _ (T1.setTop (mkF m 8 #[.val (.ref r0), .val (.int (0 : Int32))] [(.ref x0)]))
  obtain ⟨fs2, hr2, hrun2, hended2, hW2, hsame2⟩ := X1.leave (v := some (.ref x0)) (fun h => by rw [Bd.returns] at h; cases h)
  refine Good.done (retOut X1 hx Bd.returns rfl (Or.inr (Or.inr (Or.inr (Or.inr ⟨rfl, rfl, rfl⟩)))) (hb hby own_d44_8) hr2) hrun2 hended2 ⟨_, _, rfl, ?_, ⟨_, rfl⟩, hW2, hsame2.mono (by decide) (by decide)⟩
  show Q44_0 Z r0 x0 h0 n0 _ T1.heap _
  rw [e1]
  exact ⟨rfl, N0, rfl⟩
theorem own_d44_9 : decode jdk_44_method_5_code 9 = .ok (.iload_n 1, 1) := by decide +kernel
theorem own_d44_10 : decode jdk_44_method_5_code 10 = .ok (.iconst 1, 1) := by decide +kernel
theorem own_d44_11 : decode jdk_44_method_5_code 11 = .ok (.if_icmp .ne 18, 3) := by decide +kernel
theorem own_d44_14 : decode jdk_44_method_5_code 14 = .ok (.aload_n 0, 1) := by decide +kernel
theorem own_d44_15 : decode jdk_44_method_5_code 15 = .ok (.getfield 24, 3) := by decide +kernel
theorem own_d44_18 : decode jdk_44_method_5_code 18 = .ok (.getstatic 19, 3) := by decide +kernel
theorem own_d44_21 : decode jdk_44_method_5_code 21 = .ok (.if_acmp .eq 8, 3) := by decide +kernel
theorem own_d44_24 : decode jdk_44_method_5_code 24 = .ok (.aload_n 0, 1) := by decide +kernel
theorem own_d44_25 : decode jdk_44_method_5_code 25 = .ok (.getfield 24, 3) := by decide +kernel
theorem own_d44_28 : decode jdk_44_method_5_code 28 = .ok (.areturn, 1) := by decide +kernel
theorem own_ef_44_1 (m : MethodId) (x0 : Addr) (x1 : Int32) : entryFrame m #[(.ref x0), (.int x1)] 2 = mkF m 0 #[.val (.ref x0), .val (.int x1)] [] := by first | (simp [entryFrame, mkF, argsToLocals, Value.category]; done) | rfl
def Q44_1 (Z : State) (r0 : Addr) (em : Addr) (x1 : Addr) (h0 : Heap) (n0 : Nat) (v : Option Value) (h : Heap) (L : List Loc) : Prop := v = some (.ref x1) ∧ Fr n0 L ∧ h = h0
set_option maxRecDepth 65536 in
set_option maxHeartbeats 40000000 in
theorem rm44_1 (l : Launch) (Z : State) (a0 : Array Value) (hw : ∀ d ∈ tables_1, d.before a0 Z = true) (ws : List Jvm.Cond) (r0 : Addr) (em : Addr) (x1 : Addr) (h0 : Heap) (n0 : Nat) (Z0 : n0 ≤ h0.size) (F_r0_e1 : Fld Z h0 r0 "java/util/ImmutableCollections$List12" "e1" "Ljava/lang/Object;" (.ref x1)) (S_em : Sta Z h0 "java/util/ImmutableCollections" "EMPTY" "Ljava/lang/Object;" (.ref em)) (nem : x1 ≠ em) :
    MetFree l (⟨"java/util/ImmutableCollections$List12", "get", "(I)Ljava/lang/Object;"⟩ : MethodName) (head1 (Jvm.Cond.code (⟨"java/util/ImmutableCollections$List12", "get", "(I)Ljava/lang/Object;"⟩ : MethodName) jdk_44_method_5_code 2 (some (.object "java/lang/Object")) :: ws) ({ frames := 0, cells := 0, slots := 0, locals := 0 } : Room)) (fun a U => a = #[(.ref r0), (.int (1 : Int32))] ∧ Z.Warmed39 U.vm ∧ U.heap = h0) (fun _ _ _ _ _ => True) (fun _ U o U' => ∃ v L, o = .returned v ∧ Q44_1 Z r0 em x1 h0 n0 v U'.heap L ∧ FrameEnd U o U' L ({ frames := 0, cells := 0, slots := 0, locals := 0 } : Room).cells ({ frames := 0, cells := 0, slots := 0, locals := 0 } : Room).slots) := by
  refine MetFree.of_bodySF (plainFor_of_name own_pn15) hisR ?_
  intro p e s m args below meth c s₁ Bd hml0 hP hK
  obtain ⟨rfl, hZ, hh⟩ := hP
  have hx := Bd.exec
  have hby := Bd.bytes
  have hml : c.maxLocals = 2 := hml0
  have hown : s.vm.findClass "java/util/ImmutableCollections$List12" = some m.cls := findClass_of_methodNamed Bd.named
  have hnm := (name_of_methodNamed Bd.named Bd.method).1
  have X0 : Stand p l e ({ frames := 0, cells := 0, slots := 0, locals := 0 } : Room) s m #[(.ref r0), (.int (1 : Int32))] below meth c s₁ [] 0 0 := Stand.of_body Bd
  have e0 : s₁.heap = h0 := by rw [← hh, Bd.state]; rfl
  have N0 := Fr.nil n0
  show Good p e below (fun o U' => ∃ v L, o = .returned v ∧ Q44_1 Z r0 em x1 h0 n0 v U'.heap L ∧ FrameEnd s o U' L ({ frames := 0, cells := 0, slots := 0, locals := 0 } : Room).cells ({ frames := 0, cells := 0, slots := 0, locals := 0 } : Room).slots) _
  refine Good.back (S' := s₁.setTop (mkF m 0 #[.val (.ref r0), .val (.int (1 : Int32))] [])) (fun t k => castTop (own_ef_44_1 m r0 (1 : Int32)) k) ?_
  show Good p e below _ (s₁.setTop (mkF m 0 #[.val (.ref r0), .val (.int (1 : Int32))] []))
  refine Good.back (fun _ k => XS.iloadN X0.here hx rfl (hb hby own_d44_0) rfl k) ?_
  show Good p e below _ (s₁.setTop (mkF m 1 #[.val (.ref r0), .val (.int (1 : Int32))] [(.int (1 : Int32))]))
  refine Good.back (fun _ k => XS.ifYes X0.here hx rfl (pc0 := 1) (pc' := 9) rfl (hb hby own_d44_1) rfl ((if0 _ _).trans (feq (by decide : ¬ ((1 : Int32) = (0 : Int32)))).2) (by decide) (by decide) k) ?_
  show Good p e below _ (s₁.setTop (mkF m 9 #[.val (.ref r0), .val (.int (1 : Int32))] []))
  refine Good.back (fun _ k => XS.iloadN X0.here hx rfl (hb hby own_d44_9) rfl k) ?_
  refine Good.back (fun _ k => XS.iconst X0.here hx rfl (hb hby own_d44_10) k) ?_
  show Good p e below _ (s₁.setTop (mkF m 11 #[.val (.ref r0), .val (.int (1 : Int32))] [(.int (1 : Int32)), (.int (1 : Int32))]))
  refine Good.back (fun _ k => XS.icmpNo X0.here hx rfl (hb hby own_d44_11) rfl (teq (by decide : ((1 : Int32) = (1 : Int32)))).2 k) ?_
  show Good p e below _ (s₁.setTop (mkF m 14 #[.val (.ref r0), .val (.int (1 : Int32))] []))
  refine Good.back (fun _ k => XS.aloadN X0.here hx rfl (hb hby own_d44_14) rfl rfl k) ?_
  obtain ⟨T1, X1, e1, st1⟩ := getF X0 hx hZ hown (host := "") (Or.inl (hw _ (own_m 269 rfl))) Via.refl e0 F_r0_e1 (g := (mkF m 15 #[.val (.ref r0), .val (.int (1 : Int32))] [(.ref r0)])) rfl rfl (hb hby own_d44_15)
  refine Good.back st1 ?_
  obtain ⟨T2, X2, e2, st2⟩ := getS2 X1 hx hZ hown (Or.inr (hw _ (own_m 268 rfl))) Via.refl e1 S_em (g := (mkF m 18 #[.val (.ref r0), .val (.int (1 : Int32))] [(.ref x1)])) rfl (hb hby own_d44_18)
  refine Good.back st2 ?_
  show Good p e below _ (T2.setTop (mkF m 21 #[.val (.ref r0), .val (.int (1 : Int32))] [(.ref em), (.ref x1)]))
  refine Good.back (fun _ k => Jvm.RoadKit.acmp (g := (mkF m 21 #[.val (.ref r0), .val (.int (1 : Int32))] [(.ref em), (.ref x1)])) X2 hx rfl rfl rfl (pc0 := 21) (pc' := 24) (same := false) rfl (hb hby own_d44_21) rfl (decide_eq_false fun q => nem (Value.ref.inj q)) (by decide) (by decide) k) ?_
  show Good p e below _ (T2.setTop (mkF m 24 #[.val (.ref r0), .val (.int (1 : Int32))] []))
  refine Good.back (fun _ k => XS.aloadN X2.here hx rfl (hb hby own_d44_24) rfl rfl k) ?_
  obtain ⟨T3, X3, e3, st3⟩ := getF X2 hx hZ hown (host := "") (Or.inl (hw _ (own_m 269 rfl))) Via.refl e2 F_r0_e1 (g := (mkF m 25 #[.val (.ref r0), .val (.int (1 : Int32))] [(.ref r0)])) rfl rfl (hb hby own_d44_25)
  refine Good.back st3 ?_
  show Good p e below _ (T3.setTop (mkF m 28 #[.val (.ref r0), .val (.int (1 : Int32))] [(.ref x1)]))
  obtain ⟨fs4, hr4, hrun4, hended4, hW4, hsame4⟩ := X3.leave (v := some (.ref x1)) (fun h => by rw [Bd.returns] at h; cases h)
  refine Good.done (retOut X3 hx Bd.returns rfl (Or.inr (Or.inr (Or.inr (Or.inr ⟨rfl, rfl, rfl⟩)))) (hb hby own_d44_28) hr4) hrun4 hended4 ⟨_, _, rfl, ?_, ⟨_, rfl⟩, hW4, hsame4.mono (by decide) (by decide)⟩
  show Q44_1 Z r0 em x1 h0 n0 _ T3.heap _
  rw [e3]
  exact ⟨rfl, N0, rfl⟩
theorem own_d47_0 : decode jdk_45_method_4_code 0 = .ok (.aload_n 0, 1) := by decide +kernel
theorem own_d47_1 : decode jdk_45_method_4_code 1 = .ok (.getfield 7, 3) := by decide +kernel
theorem own_d47_4 : decode jdk_45_method_4_code 4 = .ok (.iload_n 1, 1) := by decide +kernel
theorem own_d47_5 : decode jdk_45_method_4_code 5 = .ok (.aaload, 1) := by decide +kernel
theorem own_d47_6 : decode jdk_45_method_4_code 6 = .ok (.areturn, 1) := by decide +kernel
theorem own_ef_47_0 (m : MethodId) (x0 : Addr) (x1 : Int32) : entryFrame m #[(.ref x0), (.int x1)] 2 = mkF m 0 #[.val (.ref x0), .val (.int x1)] [] := by first | (simp [entryFrame, mkF, argsToLocals, Value.category]; done) | rfl
def Q47_0 (Z : State) (r0 : Addr) (ea : Addr) (ke : ClassId) (x0 : Addr) (x1 : Addr) (x2 : Addr) (h0 : Heap) (n0 : Nat) (v : Option Value) (h : Heap) (L : List Loc) : Prop := v = some (.ref x0) ∧ Fr n0 L ∧ h = h0
set_option maxRecDepth 65536 in
set_option maxHeartbeats 40000000 in
theorem rm47_0 (l : Launch) (Z : State) (a0 : Array Value) (hw : ∀ d ∈ tables_1, d.before a0 Z = true) (ws : List Jvm.Cond) (r0 : Addr) (ea : Addr) (ke : ClassId) (x0 : Addr) (x1 : Addr) (x2 : Addr) (h0 : Heap) (n0 : Nat) (Z0 : n0 ≤ h0.size) (F_r0_elements : Fld Z h0 r0 "java/util/ImmutableCollections$ListN" "elements" "[Ljava/lang/Object;" (.ref ea)) (Ve : Arv Z h0 ea ke (.object "java/lang/Object") (3 : Int32) [(.ref x0), (.ref x1), (.ref x2)] .null) :
    MetFree l (⟨"java/util/ImmutableCollections$ListN", "get", "(I)Ljava/lang/Object;"⟩ : MethodName) (head1 (Jvm.Cond.code (⟨"java/util/ImmutableCollections$ListN", "get", "(I)Ljava/lang/Object;"⟩ : MethodName) jdk_45_method_4_code 2 (some (.object "java/lang/Object")) :: ws) ({ frames := 0, cells := 0, slots := 0, locals := 0 } : Room)) (fun a U => a = #[(.ref r0), (.int (0 : Int32))] ∧ Z.Warmed39 U.vm ∧ U.heap = h0) (fun _ _ _ _ _ => True) (fun _ U o U' => ∃ v L, o = .returned v ∧ Q47_0 Z r0 ea ke x0 x1 x2 h0 n0 v U'.heap L ∧ FrameEnd U o U' L ({ frames := 0, cells := 0, slots := 0, locals := 0 } : Room).cells ({ frames := 0, cells := 0, slots := 0, locals := 0 } : Room).slots) := by
  refine MetFree.of_bodySF (plainFor_of_name own_pn16) hisR ?_
  intro p e s m args below meth c s₁ Bd hml0 hP hK
  obtain ⟨rfl, hZ, hh⟩ := hP
  have hx := Bd.exec
  have hby := Bd.bytes
  have hml : c.maxLocals = 2 := hml0
  have hown : s.vm.findClass "java/util/ImmutableCollections$ListN" = some m.cls := findClass_of_methodNamed Bd.named
  have hnm := (name_of_methodNamed Bd.named Bd.method).1
  have X0 : Stand p l e ({ frames := 0, cells := 0, slots := 0, locals := 0 } : Room) s m #[(.ref r0), (.int (0 : Int32))] below meth c s₁ [] 0 0 := Stand.of_body Bd
  have e0 : s₁.heap = h0 := by rw [← hh, Bd.state]; rfl
  have N0 := Fr.nil n0
  show Good p e below (fun o U' => ∃ v L, o = .returned v ∧ Q47_0 Z r0 ea ke x0 x1 x2 h0 n0 v U'.heap L ∧ FrameEnd s o U' L ({ frames := 0, cells := 0, slots := 0, locals := 0 } : Room).cells ({ frames := 0, cells := 0, slots := 0, locals := 0 } : Room).slots) _
  refine Good.back (S' := s₁.setTop (mkF m 0 #[.val (.ref r0), .val (.int (0 : Int32))] [])) (fun t k => castTop (own_ef_47_0 m r0 (0 : Int32)) k) ?_
  show Good p e below _ (s₁.setTop (mkF m 0 #[.val (.ref r0), .val (.int (0 : Int32))] []))
  refine Good.back (fun _ k => XS.aloadN X0.here hx rfl (hb hby own_d47_0) rfl rfl k) ?_
  obtain ⟨T1, X1, e1, st1⟩ := getF X0 hx hZ hown (host := "") (Or.inl (hw _ (own_m 152 rfl))) Via.refl e0 F_r0_elements (g := (mkF m 1 #[.val (.ref r0), .val (.int (0 : Int32))] [(.ref r0)])) rfl rfl (hb hby own_d47_1)
  refine Good.back st1 ?_
  refine Good.back (fun _ k => XS.iloadN X1.here hx rfl (hb hby own_d47_4) rfl k) ?_
  have fc2 := Ve
  obtain ⟨cl2, Ar2, qk2, S2, N2', H2, G2⟩ := fc2
  have hin2 : ¬ ((0 : Int32) < 0 ∨ cl2.slots.size ≤ ((0 : Int32)).toNatClampNeg) := inb_of S2 ⟨by decide, by decide⟩
  have hat2 : cl2.slots[((0 : Int32)).toNatClampNeg]? = some (.ref x0) := Has.at H2 hin2 rfl
  refine Good.back (X1.aaload hx (j := (0 : Int32)) (v := (.ref x0)) (by rw [e1]; exact Ar2.1) (State.isArrayOf_alike hZ.alike Ar2.2.1) rfl Ar2.2.2 hin2 hat2 (g := (mkF m 5 #[.val (.ref r0), .val (.int (0 : Int32))] [(.int (0 : Int32)), (.ref ea)])) rfl rfl (hb hby own_d47_5)) ?_
  show Good p e below _ (T1.setTop (mkF m 6 #[.val (.ref r0), .val (.int (0 : Int32))] [(.ref x0)]))
  obtain ⟨fs3, hr3, hrun3, hended3, hW3, hsame3⟩ := X1.leave (v := some (.ref x0)) (fun h => by rw [Bd.returns] at h; cases h)
  refine Good.done (retOut X1 hx Bd.returns rfl (Or.inr (Or.inr (Or.inr (Or.inr ⟨rfl, rfl, rfl⟩)))) (hb hby own_d47_6) hr3) hrun3 hended3 ⟨_, _, rfl, ?_, ⟨_, rfl⟩, hW3, hsame3.mono (by decide) (by decide)⟩
  show Q47_0 Z r0 ea ke x0 x1 x2 h0 n0 _ T1.heap _
  rw [e1]
  exact ⟨rfl, N0, rfl⟩
theorem own_ef_47_1 (m : MethodId) (x0 : Addr) (x1 : Int32) : entryFrame m #[(.ref x0), (.int x1)] 2 = mkF m 0 #[.val (.ref x0), .val (.int x1)] [] := by first | (simp [entryFrame, mkF, argsToLocals, Value.category]; done) | rfl
def Q47_1 (Z : State) (r0 : Addr) (ea : Addr) (ke : ClassId) (x0 : Addr) (x1 : Addr) (x2 : Addr) (h0 : Heap) (n0 : Nat) (v : Option Value) (h : Heap) (L : List Loc) : Prop := v = some (.ref x1) ∧ Fr n0 L ∧ h = h0
set_option maxRecDepth 65536 in
set_option maxHeartbeats 40000000 in
theorem rm47_1 (l : Launch) (Z : State) (a0 : Array Value) (hw : ∀ d ∈ tables_1, d.before a0 Z = true) (ws : List Jvm.Cond) (r0 : Addr) (ea : Addr) (ke : ClassId) (x0 : Addr) (x1 : Addr) (x2 : Addr) (h0 : Heap) (n0 : Nat) (Z0 : n0 ≤ h0.size) (F_r0_elements : Fld Z h0 r0 "java/util/ImmutableCollections$ListN" "elements" "[Ljava/lang/Object;" (.ref ea)) (Ve : Arv Z h0 ea ke (.object "java/lang/Object") (3 : Int32) [(.ref x0), (.ref x1), (.ref x2)] .null) :
    MetFree l (⟨"java/util/ImmutableCollections$ListN", "get", "(I)Ljava/lang/Object;"⟩ : MethodName) (head1 (Jvm.Cond.code (⟨"java/util/ImmutableCollections$ListN", "get", "(I)Ljava/lang/Object;"⟩ : MethodName) jdk_45_method_4_code 2 (some (.object "java/lang/Object")) :: ws) ({ frames := 0, cells := 0, slots := 0, locals := 0 } : Room)) (fun a U => a = #[(.ref r0), (.int (1 : Int32))] ∧ Z.Warmed39 U.vm ∧ U.heap = h0) (fun _ _ _ _ _ => True) (fun _ U o U' => ∃ v L, o = .returned v ∧ Q47_1 Z r0 ea ke x0 x1 x2 h0 n0 v U'.heap L ∧ FrameEnd U o U' L ({ frames := 0, cells := 0, slots := 0, locals := 0 } : Room).cells ({ frames := 0, cells := 0, slots := 0, locals := 0 } : Room).slots) := by
  refine MetFree.of_bodySF (plainFor_of_name own_pn16) hisR ?_
  intro p e s m args below meth c s₁ Bd hml0 hP hK
  obtain ⟨rfl, hZ, hh⟩ := hP
  have hx := Bd.exec
  have hby := Bd.bytes
  have hml : c.maxLocals = 2 := hml0
  have hown : s.vm.findClass "java/util/ImmutableCollections$ListN" = some m.cls := findClass_of_methodNamed Bd.named
  have hnm := (name_of_methodNamed Bd.named Bd.method).1
  have X0 : Stand p l e ({ frames := 0, cells := 0, slots := 0, locals := 0 } : Room) s m #[(.ref r0), (.int (1 : Int32))] below meth c s₁ [] 0 0 := Stand.of_body Bd
  have e0 : s₁.heap = h0 := by rw [← hh, Bd.state]; rfl
  have N0 := Fr.nil n0
  show Good p e below (fun o U' => ∃ v L, o = .returned v ∧ Q47_1 Z r0 ea ke x0 x1 x2 h0 n0 v U'.heap L ∧ FrameEnd s o U' L ({ frames := 0, cells := 0, slots := 0, locals := 0 } : Room).cells ({ frames := 0, cells := 0, slots := 0, locals := 0 } : Room).slots) _
  refine Good.back (S' := s₁.setTop (mkF m 0 #[.val (.ref r0), .val (.int (1 : Int32))] [])) (fun t k => castTop (own_ef_47_1 m r0 (1 : Int32)) k) ?_
  show Good p e below _ (s₁.setTop (mkF m 0 #[.val (.ref r0), .val (.int (1 : Int32))] []))
  refine Good.back (fun _ k => XS.aloadN X0.here hx rfl (hb hby own_d47_0) rfl rfl k) ?_
  obtain ⟨T1, X1, e1, st1⟩ := getF X0 hx hZ hown (host := "") (Or.inl (hw _ (own_m 152 rfl))) Via.refl e0 F_r0_elements (g := (mkF m 1 #[.val (.ref r0), .val (.int (1 : Int32))] [(.ref r0)])) rfl rfl (hb hby own_d47_1)
  refine Good.back st1 ?_
  refine Good.back (fun _ k => XS.iloadN X1.here hx rfl (hb hby own_d47_4) rfl k) ?_
  have fc2 := Ve
  obtain ⟨cl2, Ar2, qk2, S2, N2', H2, G2⟩ := fc2
  have hin2 : ¬ ((1 : Int32) < 0 ∨ cl2.slots.size ≤ ((1 : Int32)).toNatClampNeg) := inb_of S2 ⟨by decide, by decide⟩
  have hat2 : cl2.slots[((1 : Int32)).toNatClampNeg]? = some (.ref x1) := Has.at H2 hin2 rfl
  refine Good.back (X1.aaload hx (j := (1 : Int32)) (v := (.ref x1)) (by rw [e1]; exact Ar2.1) (State.isArrayOf_alike hZ.alike Ar2.2.1) rfl Ar2.2.2 hin2 hat2 (g := (mkF m 5 #[.val (.ref r0), .val (.int (1 : Int32))] [(.int (1 : Int32)), (.ref ea)])) rfl rfl (hb hby own_d47_5)) ?_
  show Good p e below _ (T1.setTop (mkF m 6 #[.val (.ref r0), .val (.int (1 : Int32))] [(.ref x1)]))
  obtain ⟨fs3, hr3, hrun3, hended3, hW3, hsame3⟩ := X1.leave (v := some (.ref x1)) (fun h => by rw [Bd.returns] at h; cases h)
  refine Good.done (retOut X1 hx Bd.returns rfl (Or.inr (Or.inr (Or.inr (Or.inr ⟨rfl, rfl, rfl⟩)))) (hb hby own_d47_6) hr3) hrun3 hended3 ⟨_, _, rfl, ?_, ⟨_, rfl⟩, hW3, hsame3.mono (by decide) (by decide)⟩
  show Q47_1 Z r0 ea ke x0 x1 x2 h0 n0 _ T1.heap _
  rw [e1]
  exact ⟨rfl, N0, rfl⟩
theorem own_ef_47_2 (m : MethodId) (x0 : Addr) (x1 : Int32) : entryFrame m #[(.ref x0), (.int x1)] 2 = mkF m 0 #[.val (.ref x0), .val (.int x1)] [] := by first | (simp [entryFrame, mkF, argsToLocals, Value.category]; done) | rfl
def Q47_2 (Z : State) (r0 : Addr) (ea : Addr) (ke : ClassId) (x0 : Addr) (x1 : Addr) (x2 : Addr) (h0 : Heap) (n0 : Nat) (v : Option Value) (h : Heap) (L : List Loc) : Prop := v = some (.ref x2) ∧ Fr n0 L ∧ h = h0
set_option maxRecDepth 65536 in
set_option maxHeartbeats 40000000 in
theorem rm47_2 (l : Launch) (Z : State) (a0 : Array Value) (hw : ∀ d ∈ tables_1, d.before a0 Z = true) (ws : List Jvm.Cond) (r0 : Addr) (ea : Addr) (ke : ClassId) (x0 : Addr) (x1 : Addr) (x2 : Addr) (h0 : Heap) (n0 : Nat) (Z0 : n0 ≤ h0.size) (F_r0_elements : Fld Z h0 r0 "java/util/ImmutableCollections$ListN" "elements" "[Ljava/lang/Object;" (.ref ea)) (Ve : Arv Z h0 ea ke (.object "java/lang/Object") (3 : Int32) [(.ref x0), (.ref x1), (.ref x2)] .null) :
    MetFree l (⟨"java/util/ImmutableCollections$ListN", "get", "(I)Ljava/lang/Object;"⟩ : MethodName) (head1 (Jvm.Cond.code (⟨"java/util/ImmutableCollections$ListN", "get", "(I)Ljava/lang/Object;"⟩ : MethodName) jdk_45_method_4_code 2 (some (.object "java/lang/Object")) :: ws) ({ frames := 0, cells := 0, slots := 0, locals := 0 } : Room)) (fun a U => a = #[(.ref r0), (.int (2 : Int32))] ∧ Z.Warmed39 U.vm ∧ U.heap = h0) (fun _ _ _ _ _ => True) (fun _ U o U' => ∃ v L, o = .returned v ∧ Q47_2 Z r0 ea ke x0 x1 x2 h0 n0 v U'.heap L ∧ FrameEnd U o U' L ({ frames := 0, cells := 0, slots := 0, locals := 0 } : Room).cells ({ frames := 0, cells := 0, slots := 0, locals := 0 } : Room).slots) := by
  refine MetFree.of_bodySF (plainFor_of_name own_pn16) hisR ?_
  intro p e s m args below meth c s₁ Bd hml0 hP hK
  obtain ⟨rfl, hZ, hh⟩ := hP
  have hx := Bd.exec
  have hby := Bd.bytes
  have hml : c.maxLocals = 2 := hml0
  have hown : s.vm.findClass "java/util/ImmutableCollections$ListN" = some m.cls := findClass_of_methodNamed Bd.named
  have hnm := (name_of_methodNamed Bd.named Bd.method).1
  have X0 : Stand p l e ({ frames := 0, cells := 0, slots := 0, locals := 0 } : Room) s m #[(.ref r0), (.int (2 : Int32))] below meth c s₁ [] 0 0 := Stand.of_body Bd
  have e0 : s₁.heap = h0 := by rw [← hh, Bd.state]; rfl
  have N0 := Fr.nil n0
  show Good p e below (fun o U' => ∃ v L, o = .returned v ∧ Q47_2 Z r0 ea ke x0 x1 x2 h0 n0 v U'.heap L ∧ FrameEnd s o U' L ({ frames := 0, cells := 0, slots := 0, locals := 0 } : Room).cells ({ frames := 0, cells := 0, slots := 0, locals := 0 } : Room).slots) _
  refine Good.back (S' := s₁.setTop (mkF m 0 #[.val (.ref r0), .val (.int (2 : Int32))] [])) (fun t k => castTop (own_ef_47_2 m r0 (2 : Int32)) k) ?_
  show Good p e below _ (s₁.setTop (mkF m 0 #[.val (.ref r0), .val (.int (2 : Int32))] []))
  refine Good.back (fun _ k => XS.aloadN X0.here hx rfl (hb hby own_d47_0) rfl rfl k) ?_
  obtain ⟨T1, X1, e1, st1⟩ := getF X0 hx hZ hown (host := "") (Or.inl (hw _ (own_m 152 rfl))) Via.refl e0 F_r0_elements (g := (mkF m 1 #[.val (.ref r0), .val (.int (2 : Int32))] [(.ref r0)])) rfl rfl (hb hby own_d47_1)
  refine Good.back st1 ?_
  refine Good.back (fun _ k => XS.iloadN X1.here hx rfl (hb hby own_d47_4) rfl k) ?_
  have fc2 := Ve
  obtain ⟨cl2, Ar2, qk2, S2, N2', H2, G2⟩ := fc2
  have hin2 : ¬ ((2 : Int32) < 0 ∨ cl2.slots.size ≤ ((2 : Int32)).toNatClampNeg) := inb_of S2 ⟨by decide, by decide⟩
  have hat2 : cl2.slots[((2 : Int32)).toNatClampNeg]? = some (.ref x2) := Has.at H2 hin2 rfl
  refine Good.back (X1.aaload hx (j := (2 : Int32)) (v := (.ref x2)) (by rw [e1]; exact Ar2.1) (State.isArrayOf_alike hZ.alike Ar2.2.1) rfl Ar2.2.2 hin2 hat2 (g := (mkF m 5 #[.val (.ref r0), .val (.int (2 : Int32))] [(.int (2 : Int32)), (.ref ea)])) rfl rfl (hb hby own_d47_5)) ?_
  show Good p e below _ (T1.setTop (mkF m 6 #[.val (.ref r0), .val (.int (2 : Int32))] [(.ref x2)]))
  obtain ⟨fs3, hr3, hrun3, hended3, hW3, hsame3⟩ := X1.leave (v := some (.ref x2)) (fun h => by rw [Bd.returns] at h; cases h)
  refine Good.done (retOut X1 hx Bd.returns rfl (Or.inr (Or.inr (Or.inr (Or.inr ⟨rfl, rfl, rfl⟩)))) (hb hby own_d47_6) hr3) hrun3 hended3 ⟨_, _, rfl, ?_, ⟨_, rfl⟩, hW3, hsame3.mono (by decide) (by decide)⟩
  show Q47_2 Z r0 ea ke x0 x1 x2 h0 n0 _ T1.heap _
  rw [e1]
  exact ⟨rfl, N0, rfl⟩
theorem own_d37_0 : decode jdk_29_method_69_code 0 = .ok (.iload_n 0, 1) := by decide +kernel
theorem own_d37_1 : decode jdk_29_method_69_code 1 = .ok (.iload_n 1, 1) := by decide +kernel
theorem own_d37_2 : decode jdk_29_method_69_code 2 = .ok (.if_icmp .gt 7, 3) := by decide +kernel
theorem own_d37_9 : decode jdk_29_method_69_code 9 = .ok (.iload_n 1, 1) := by decide +kernel
theorem own_d37_10 : decode jdk_29_method_69_code 10 = .ok (.ireturn, 1) := by decide +kernel
theorem own_ef_37_1 (m : MethodId) (x0 : Int32) (x1 : Int32) : entryFrame m #[(.int x0), (.int x1)] 2 = mkF m 0 #[.val (.int x0), .val (.int x1)] [] := by first | (simp [entryFrame, mkF, argsToLocals, Value.category]; done) | rfl
def Q37_1 (Z : State)  (h0 : Heap) (n0 : Nat) (v : Option Value) (h : Heap) (L : List Loc) : Prop := v = some (.int (1 : Int32)) ∧ Fr n0 L ∧ h = h0
set_option maxRecDepth 65536 in
set_option maxHeartbeats 40000000 in
theorem rm37_1 (l : Launch) (Z : State) (a0 : Array Value) (hw : ∀ d ∈ tables_1, d.before a0 Z = true) (ws : List Jvm.Cond)  (h0 : Heap) (n0 : Nat) (Z0 : n0 ≤ h0.size)  :
    MetFree l (⟨"java/lang/Math", "min", "(II)I"⟩ : MethodName) (head1 (Jvm.Cond.code (⟨"java/lang/Math", "min", "(II)I"⟩ : MethodName) jdk_29_method_69_code 2 (some .int) :: ws) ({ frames := 0, cells := 0, slots := 0, locals := 0 } : Room)) (fun a U => a = #[(.int (10 : Int32)), (.int (1 : Int32))] ∧ Z.Warmed39 U.vm ∧ U.heap = h0) (fun _ _ _ _ _ => True) (fun _ U o U' => ∃ v L, o = .returned v ∧ Q37_1 Z  h0 n0 v U'.heap L ∧ FrameEnd U o U' L ({ frames := 0, cells := 0, slots := 0, locals := 0 } : Room).cells ({ frames := 0, cells := 0, slots := 0, locals := 0 } : Room).slots) := by
  refine MetFree.of_bodySF (Jvm.Free.JP.mathPlain rfl (by decide +kernel)) hisR ?_
  intro p e s m args below meth c s₁ Bd hml0 hP hK
  obtain ⟨rfl, hZ, hh⟩ := hP
  have hx := Bd.exec
  have hby := Bd.bytes
  have hml : c.maxLocals = 2 := hml0
  have hown : s.vm.findClass "java/lang/Math" = some m.cls := findClass_of_methodNamed Bd.named
  have hnm := (name_of_methodNamed Bd.named Bd.method).1
  have X0 : Stand p l e ({ frames := 0, cells := 0, slots := 0, locals := 0 } : Room) s m #[(.int (10 : Int32)), (.int (1 : Int32))] below meth c s₁ [] 0 0 := Stand.of_body Bd
  have e0 : s₁.heap = h0 := by rw [← hh, Bd.state]; rfl
  have N0 := Fr.nil n0
  show Good p e below (fun o U' => ∃ v L, o = .returned v ∧ Q37_1 Z  h0 n0 v U'.heap L ∧ FrameEnd s o U' L ({ frames := 0, cells := 0, slots := 0, locals := 0 } : Room).cells ({ frames := 0, cells := 0, slots := 0, locals := 0 } : Room).slots) _
  refine Good.back (S' := s₁.setTop (mkF m 0 #[.val (.int (10 : Int32)), .val (.int (1 : Int32))] [])) (fun t k => castTop (own_ef_37_1 m (10 : Int32) (1 : Int32)) k) ?_
  show Good p e below _ (s₁.setTop (mkF m 0 #[.val (.int (10 : Int32)), .val (.int (1 : Int32))] []))
  refine Good.back (fun _ k => XS.iloadN X0.here hx rfl (hb hby own_d37_0) rfl k) ?_
  refine Good.back (fun _ k => XS.iloadN X0.here hx rfl (hb hby own_d37_1) rfl k) ?_
  show Good p e below _ (s₁.setTop (mkF m 2 #[.val (.int (10 : Int32)), .val (.int (1 : Int32))] [(.int (1 : Int32)), (.int (10 : Int32))]))
  refine Good.back (fun _ k => XS.icmpYes X0.here hx rfl (pc0 := 2) (pc' := 9) rfl (hb hby own_d37_2) rfl (tlt (by decide : ((1 : Int32) < (10 : Int32)))).2.2.1 (by decide) (by decide) k) ?_
  show Good p e below _ (s₁.setTop (mkF m 9 #[.val (.int (10 : Int32)), .val (.int (1 : Int32))] []))
  refine Good.back (fun _ k => XS.iloadN X0.here hx rfl (hb hby own_d37_9) rfl k) ?_
  show Good p e below _ (s₁.setTop (mkF m 10 #[.val (.int (10 : Int32)), .val (.int (1 : Int32))] [(.int (1 : Int32))]))
  obtain ⟨fs1, hr1, hrun1, hended1, hW1, hsame1⟩ := X0.leave (v := some (.int (1 : Int32))) (fun h => by rw [Bd.returns] at h; cases h)
  refine Good.done (retI X0 hx Bd.returns (hb hby own_d37_10) hr1) hrun1 hended1 ⟨_, _, rfl, ?_, ⟨_, rfl⟩, hW1, hsame1.mono (by decide) (by decide)⟩
  show Q37_1 Z  h0 n0 _ s₁.heap _
  rw [e0]
  exact ⟨rfl, N0, rfl⟩
theorem own_pn17 : plainName "java/util/Arrays" = true := by first | (simp [plainName, overriddenIn]; done) | decide +kernel
theorem own_d36_0 : decode jdk_65_method_120_code 0 = .ok (.aload_n 2, 1) := by decide +kernel
theorem own_d36_1 : decode jdk_65_method_120_code 1 = .ok (.ldc 110, 2) := by decide +kernel
theorem own_d36_3 : decode jdk_65_method_120_code 3 = .ok (.if_acmp .ne 10, 3) := by decide +kernel
theorem own_d36_6 : decode jdk_65_method_120_code 6 = .ok (.iload_n 1, 1) := by decide +kernel
theorem own_d36_7 : decode jdk_65_method_120_code 7 = .ok (.anewarray 2, 3) := by decide +kernel
theorem own_d36_10 : decode jdk_65_method_120_code 10 = .ok (.goto 14, 3) := by decide +kernel
theorem own_d36_24 : decode jdk_65_method_120_code 24 = .ok (.astore_n 3, 1) := by decide +kernel
theorem own_d36_25 : decode jdk_65_method_120_code 25 = .ok (.aload_n 0, 1) := by decide +kernel
theorem own_d36_26 : decode jdk_65_method_120_code 26 = .ok (.iconst 0, 1) := by decide +kernel
theorem own_d36_27 : decode jdk_65_method_120_code 27 = .ok (.aload_n 3, 1) := by decide +kernel
theorem own_d36_28 : decode jdk_65_method_120_code 28 = .ok (.iconst 0, 1) := by decide +kernel
theorem own_d36_29 : decode jdk_65_method_120_code 29 = .ok (.aload_n 0, 1) := by decide +kernel
theorem own_d36_30 : decode jdk_65_method_120_code 30 = .ok (.arraylength, 1) := by decide +kernel
theorem own_d36_31 : decode jdk_65_method_120_code 31 = .ok (.iload_n 1, 1) := by decide +kernel
theorem own_d36_32 : decode jdk_65_method_120_code 32 = .ok (.invokestatic 304, 3) := by decide +kernel
theorem own_d36_35 : decode jdk_65_method_120_code 35 = .ok (.invokestatic 150, 3) := by decide +kernel
theorem own_d36_38 : decode jdk_65_method_120_code 38 = .ok (.aload_n 3, 1) := by decide +kernel
theorem own_d36_39 : decode jdk_65_method_120_code 39 = .ok (.areturn, 1) := by decide +kernel
theorem own_ef_36_1 (m : MethodId) (x0 : Addr) (x1 : Int32) (x2 : Addr) : entryFrame m #[(.ref x0), (.int x1), (.ref x2)] 4 = mkF m 0 #[.val (.ref x0), .val (.int x1), .val (.ref x2), .unset] [] := by first | (simp [entryFrame, mkF, argsToLocals, Value.category]; done) | rfl
def Q36_1 (Z : State) (r0 : Addr) (mr : Addr) (kk : ClassId) (x0 : Addr) (h0 : Heap) (n0 : Nat) (v : Option Value) (h : Heap) (L : List Loc) : Prop := ∃ (cp : Addr) (kc : ClassId), v = some (.ref cp) ∧ Fr n0 L ∧ Keep h0 h [] ∧ h0.size ≤ cp ∧ Exa Z h cp "[Ljava/lang/Object;" ∧ Arv Z h cp kc (.object "java/lang/Object") (1 : Int32) [(.ref x0)] .null ∧ Ovr Z kc "java/lang/Object"
set_option maxRecDepth 65536 in
set_option maxHeartbeats 40000000 in
theorem rm36_1 (l : Launch) (Z : State) (a0 : Array Value) (hw : ∀ d ∈ tables_1, d.before a0 Z = true) (ws : List Jvm.Cond) (r0 : Addr) (mr : Addr) (kk : ClassId) (x0 : Addr) (h0 : Heap) (n0 : Nat) (Z0 : n0 ≤ h0.size) (Va : Arv Z h0 r0 kk (.object "java/lang/Object") (10 : Int32) [(.ref x0), .null, .null, .null, .null, .null, .null, .null, .null, .null] .null) (hmir : Mir Z "[Ljava/lang/Object;" mr) (E_x0 : Exa Z h0 x0 "com/example/liken/liken/core/Token") :
    MetFree l (⟨"java/util/Arrays", "copyOf", "([Ljava/lang/Object;ILjava/lang/Class;)[Ljava/lang/Object;"⟩ : MethodName) (head1 (Jvm.Cond.code (⟨"java/util/Arrays", "copyOf", "([Ljava/lang/Object;ILjava/lang/Class;)[Ljava/lang/Object;"⟩ : MethodName) jdk_65_method_120_code 4 (some (.array (.object "java/lang/Object"))) :: ws) ({ frames := 1, cells := 1, slots := 1, locals := 18 } : Room)) (fun a U => a = #[(.ref r0), (.int (1 : Int32)), (.ref mr)] ∧ Z.Warmed39 U.vm ∧ U.heap = h0) (fun _ _ _ _ _ => True) (fun _ U o U' => ∃ v L, o = .returned v ∧ Q36_1 Z r0 mr kk x0 h0 n0 v U'.heap L ∧ FrameEnd U o U' L ({ frames := 1, cells := 1, slots := 1, locals := 18 } : Room).cells ({ frames := 1, cells := 1, slots := 1, locals := 18 } : Room).slots) := by
  refine MetFree.of_bodySF (plainFor_of_name own_pn17) hisR ?_
  intro p e s m args below meth c s₁ Bd hml0 hP hK
  obtain ⟨rfl, hZ, hh⟩ := hP
  have hx := Bd.exec
  have hby := Bd.bytes
  have hml : c.maxLocals = 4 := hml0
  have hown : s.vm.findClass "java/util/Arrays" = some m.cls := findClass_of_methodNamed Bd.named
  have hnm := (name_of_methodNamed Bd.named Bd.method).1
  have X0 : Stand p l e ({ frames := 1, cells := 1, slots := 1, locals := 18 } : Room) s m #[(.ref r0), (.int (1 : Int32)), (.ref mr)] below meth c s₁ [] 0 0 := Stand.of_body Bd
  have e0 : s₁.heap = h0 := by rw [← hh, Bd.state]; rfl
  have N0 := Fr.nil n0
  have KR : Keep h0 h0 [] := Keep.refl h0 _
  show Good p e below (fun o U' => ∃ v L, o = .returned v ∧ Q36_1 Z r0 mr kk x0 h0 n0 v U'.heap L ∧ FrameEnd s o U' L ({ frames := 1, cells := 1, slots := 1, locals := 18 } : Room).cells ({ frames := 1, cells := 1, slots := 1, locals := 18 } : Room).slots) _
  refine Good.back (S' := s₁.setTop (mkF m 0 #[.val (.ref r0), .val (.int (1 : Int32)), .val (.ref mr), .unset] [])) (fun t k => castTop (own_ef_36_1 m r0 (1 : Int32) mr) k) ?_
  show Good p e below _ (s₁.setTop (mkF m 0 #[.val (.ref r0), .val (.int (1 : Int32)), .val (.ref mr), .unset] []))
  refine Good.back (fun _ k => XS.aloadN X0.here hx rfl (hb hby own_d36_0) rfl rfl k) ?_
  show Good p e below _ (s₁.setTop (mkF m 1 #[.val (.ref r0), .val (.int (1 : Int32)), .val (.ref mr), .unset] [(.ref mr)]))
  obtain ⟨T1, X1, e1, st1⟩ := own_ldcMir X0 hx hZ hown (hw _ (own_m 230 rfl)) e0 hmir (g := (mkF m 1 #[.val (.ref r0), .val (.int (1 : Int32)), .val (.ref mr), .unset] [(.ref mr)])) rfl (hb hby own_d36_1)
  refine Good.back st1 ?_
  show Good p e below _ (T1.setTop (mkF m 3 #[.val (.ref r0), .val (.int (1 : Int32)), .val (.ref mr), .unset] [(.ref mr), (.ref mr)]))
  refine Good.back (fun _ k => Jvm.RoadKit.acmp (g := (mkF m 3 #[.val (.ref r0), .val (.int (1 : Int32)), .val (.ref mr), .unset] [(.ref mr), (.ref mr)])) X1 hx rfl rfl rfl (pc0 := 3) (pc' := 6) (same := true) rfl (hb hby own_d36_3) rfl (decide_eq_true rfl) (by decide) (by decide) k) ?_
  show Good p e below _ (T1.setTop (mkF m 6 #[.val (.ref r0), .val (.int (1 : Int32)), .val (.ref mr), .unset] []))
  refine Good.back (fun _ k => XS.iloadN X1.here hx rfl (hb hby own_d36_6) rfl k) ?_
  obtain ⟨T2, h2, k2, X2, e2, E2, A2, B2, O2, st2⟩ := newRE X1 hx hZ hown (hw _ (own_m 231 rfl)) (hw _ (own_m 207 rfl)) e1 (g := (mkF m 7 #[.val (.ref r0), .val (.int (1 : Int32)), .val (.ref mr), .unset] [(.int (1 : Int32))])) rfl (hb hby own_d36_7) rfl (by decide) (cap := 1) (by decide) (by decide) (by decide) (by decide) (ad := "[Ljava/lang/Object;") (by decide +kernel)
  obtain ⟨b2, g2⟩ : ∃ z, z = h0.size := ⟨_, rfl⟩
  rw [← g2] at A2 B2 st2
  refine Good.back st2 ?_
  have g_b2 : n0 ≤ b2 := Nat.le_trans Z0 (Nat.le_of_eq g2.symm)
  have sz_b2 : h0.size ≤ b2 := Nat.le_trans KR.1 (Nat.le_of_eq g2.symm)
  have Z3 : n0 ≤ h2.size := Nat.le_trans Z0 E2.1
  have K4 : Keep h0 h2 [] := KR.ext E2
  have f_5 : Exa Z h2 b2 "[Ljava/lang/Object;" := B2
  have f_6 : Arv Z h2 b2 k2 (.object "java/lang/Object") (1 : Int32) [.null] .null := (Arv.new A2 (by decide)).pad (pad_rep [] .null 1)
  show Good p e below _ (T2.setTop (mkF m 10 #[.val (.ref r0), .val (.int (1 : Int32)), .val (.ref mr), .unset] [(.ref b2)]))
  refine Good.back (fun _ k => XS.goto X2.here hx rfl (pc0 := 10) (pc' := 24) rfl (hb hby own_d36_10) (by decide) (by decide) k) ?_
  show Good p e below _ (T2.setTop (mkF m 24 #[.val (.ref r0), .val (.int (1 : Int32)), .val (.ref mr), .unset] [(.ref b2)]))
  refine Good.back (fun _ k => XS.astoreN X2.here hx rfl (hb hby own_d36_24) rfl rfl (l' := #[.val (.ref r0), .val (.int (1 : Int32)), .val (.ref mr), .val (.ref b2)]) rfl k) ?_
  refine Good.back (fun _ k => XS.aloadN X2.here hx rfl (hb hby own_d36_25) rfl rfl k) ?_
  refine Good.back (fun _ k => XS.iconst X2.here hx rfl (hb hby own_d36_26) k) ?_
  refine Good.back (fun _ k => XS.aloadN X2.here hx rfl (hb hby own_d36_27) rfl rfl k) ?_
  refine Good.back (fun _ k => XS.iconst X2.here hx rfl (hb hby own_d36_28) k) ?_
  show Good p e below _ (T2.setTop (mkF m 29 #[.val (.ref r0), .val (.int (1 : Int32)), .val (.ref mr), .val (.ref b2)] [(.int (0 : Int32)), (.ref b2), (.int (0 : Int32)), (.ref r0)]))
  refine Good.back (fun _ k => XS.aloadN X2.here hx rfl (hb hby own_d36_29) rfl rfl k) ?_
  have f_7 : Arv Z h2 r0 kk (.object "java/lang/Object") (10 : Int32) [(.ref x0), .null, .null, .null, .null, .null, .null, .null, .null, .null] .null := Arv.ext Va E2
  have fc8 := f_7
  obtain ⟨cl8, Ar8, qk8, S8, N8', H8, G8⟩ := fc8
  refine Good.back (X2.arraylength hx (by rw [e2]; exact Ar8.1) (State.isArrayOf_alike hZ.alike Ar8.2.1) (g := (mkF m 30 #[.val (.ref r0), .val (.int (1 : Int32)), .val (.ref mr), .val (.ref b2)] [(.ref r0), (.int (0 : Int32)), (.ref b2), (.int (0 : Int32)), (.ref r0)])) rfl rfl (hb hby own_d36_30)) ?_
  rw [len_of S8 N8']
  refine Good.back (fun _ k => XS.iloadN X2.here hx rfl (hb hby own_d36_31) rfl k) ?_
  obtain ⟨_, _, ⟨T9, L9, k9, n9⟩, -, X9, ⟨Lc9, hQ9, l9, y9, z9⟩, st9⟩ := Jvm.LawKit.callS X2 hx (y := (⟨"java/lang/Math", "min", "(II)I"⟩ : MethodName)) hown (mvT hZ (hw _ (own_m 232 rfl))) (mvT hZ (hw _ (own_m 233 rfl))) (mvT hZ (hw _ (own_m 204 rfl))) (mvT hZ (hw _ (own_m 234 rfl))) (by decide) (backOf (W := 4) (rm37_1 l Z a0 hw []   h2 n0 Z3 ) hZ (hw _ (own_m 234 rfl)) (hw _ (own_m 204 rfl)) (by decide) (by decide)) (g := (mkF m 32 #[.val (.ref r0), .val (.int (1 : Int32)), .val (.ref mr), .val (.ref b2)] [(.int (1 : Int32)), (.int (10 : Int32)), (.int (0 : Int32)), (.ref b2), (.int (0 : Int32)), (.ref r0)])) rfl (by rw [hml]; rfl) (argsL := [(.int (10 : Int32)), (.int (1 : Int32))]) (rest := [(.int (0 : Int32)), (.ref b2), (.int (0 : Int32)), (.ref r0)]) (lenOf own_pd249 rfl) rfl (by show 2 * 0 + _ ≤ _; exact Nat.le_of_eq rfl) (hb hby own_d36_32) (fun _ _ => ⟨rfl, e2, (by decide : 1 + 0 ≤ _), (by decide : 1 + 0 ≤ _)⟩)
  dsimp only [Pt.U, Pt.locs, Pt.cells, Pt.slots] at X9 l9 y9 z9 st9 hQ9
  subst l9 y9 z9
  obtain ⟨rfl, N9q, eh9⟩ := hQ9
  have N9 := Fr.app N0 N9q
  refine Good.back st9 ?_
  have fc10 := f_6
  obtain ⟨cl10, Ar10, qk10, S10, N10', H10, G10⟩ := fc10
  have f_10 : Exa Z h2 x0 "com/example/liken/liken/core/Token" := Exa.ext E2 E_x0
  obtain ⟨T11, h11, L11, X11, e11, N11, Kq11, A11, st11⟩ := cpA X9 hx hZ hown (hw _ (own_m 235 rfl)) (hw _ (own_m 238 rfl)) (hw _ (own_m 236 rfl)) (hw _ (own_m 237 rfl)) eh9 f_7 f_6 (us := [(.ref x0)]) (Or.inr ⟨rfl, rfl, ⟨Sto.ofV Ar10 qk10 O2 (Ins.of_exa f_10 (hw _ (own_m 208 rfl))), trivial⟩⟩) (by decide) (by decide) (by decide) (by decide) (by decide) rfl (by decide) N9 g_b2 (g := (mkF m 35 #[.val (.ref r0), .val (.int (1 : Int32)), .val (.ref mr), .val (.ref b2)] [(.int (1 : Int32)), (.int (0 : Int32)), (.ref b2), (.int (0 : Int32)), (.ref r0)])) rfl (by rw [hml]; rfl) rfl (hb hby own_d36_35) (by decide) (W := 0) (by show 2 * 0 + _ ≤ _; exact Nat.le_of_eq rfl) (by decide)
  refine Good.back st11 ?_
  have Z12 : n0 ≤ h11.size := Nat.le_trans Z3 Kq11.1
  have K13 : Keep h0 h11 [] := K4.trans Kq11 (allS (Or.inr sz_b2) all0)
  have f_14 : Arv Z h11 b2 k2 (.object "java/lang/Object") (1 : Int32) [(.ref x0)] .null := A11
  refine Good.back (fun _ k => XS.aloadN X11.here hx rfl (hb hby own_d36_38) rfl rfl k) ?_
  show Good p e below _ (T11.setTop (mkF m 39 #[.val (.ref r0), .val (.int (1 : Int32)), .val (.ref mr), .val (.ref b2)] [(.ref b2)]))
  obtain ⟨fs15, hr15, hrun15, hended15, hW15, hsame15⟩ := X11.leave (v := some (.ref b2)) (fun h => by rw [Bd.returns] at h; cases h)
  refine Good.done (retOut X11 hx Bd.returns rfl (Or.inr (Or.inr (Or.inr (Or.inr ⟨rfl, rfl, rfl⟩)))) (hb hby own_d36_39) hr15) hrun15 hended15 ⟨_, _, rfl, ?_, ⟨_, rfl⟩, hW15, hsame15.mono (by decide) (by decide)⟩
  show Q36_1 Z r0 mr kk x0 h0 n0 _ T11.heap _
  rw [e11]
  have f_16 : Exa Z h11 b2 "[Ljava/lang/Object;" := Exa.keep f_5 Kq11
  exact ⟨b2, k2, rfl, N11, K13, sz_b2, f_16, f_14, O2⟩
theorem own_pd466 : parseMethodDescriptor "([Ljava/lang/Object;ILjava/lang/Class;)[Ljava/lang/Object;" = some ⟨[(.array (.object "java/lang/Object")), .int, (.object "java/lang/Class")], some (.array (.object "java/lang/Object"))⟩ := by decide +kernel
theorem own_d35_0 : decode jdk_65_method_119_code 0 = .ok (.aload_n 0, 1) := by decide +kernel
theorem own_d35_1 : decode jdk_65_method_119_code 1 = .ok (.iload_n 1, 1) := by decide +kernel
theorem own_d35_2 : decode jdk_65_method_119_code 2 = .ok (.aload_n 0, 1) := by decide +kernel
theorem own_d35_3 : decode jdk_65_method_119_code 3 = .ok (.invokevirtual 86, 3) := by decide +kernel
theorem own_d35_6 : decode jdk_65_method_119_code 6 = .ok (.invokestatic 300, 3) := by decide +kernel
theorem own_d35_9 : decode jdk_65_method_119_code 9 = .ok (.areturn, 1) := by decide +kernel
theorem own_ef_35_1 (m : MethodId) (x0 : Addr) (x1 : Int32) : entryFrame m #[(.ref x0), (.int x1)] 2 = mkF m 0 #[.val (.ref x0), .val (.int x1)] [] := by first | (simp [entryFrame, mkF, argsToLocals, Value.category]; done) | rfl
def Q35_1 (Z : State) (r0 : Addr) (kk : ClassId) (mr : Addr) (x0 : Addr) (h0 : Heap) (n0 : Nat) (v : Option Value) (h : Heap) (L : List Loc) : Prop := ∃ (cp : Addr) (kc : ClassId), v = some (.ref cp) ∧ Fr n0 L ∧ Keep h0 h [] ∧ h0.size ≤ cp ∧ Exa Z h cp "[Ljava/lang/Object;" ∧ Arv Z h cp kc (.object "java/lang/Object") (1 : Int32) [(.ref x0)] .null ∧ Ovr Z kc "java/lang/Object"
set_option maxRecDepth 65536 in
set_option maxHeartbeats 40000000 in
theorem rm35_1 (l : Launch) (Z : State) (a0 : Array Value) (hw : ∀ d ∈ tables_1, d.before a0 Z = true) (ws : List Jvm.Cond) (r0 : Addr) (kk : ClassId) (mr : Addr) (x0 : Addr) (h0 : Heap) (n0 : Nat) (Z0 : n0 ≤ h0.size) (E0 : Exa Z h0 r0 "[Ljava/lang/Object;") (Va : Arv Z h0 r0 kk (.object "java/lang/Object") (10 : Int32) [(.ref x0), .null, .null, .null, .null, .null, .null, .null, .null, .null] .null) (hmir : Mir Z "[Ljava/lang/Object;" mr) (E_x0 : Exa Z h0 x0 "com/example/liken/liken/core/Token") :
    MetFree l (⟨"java/util/Arrays", "copyOf", "([Ljava/lang/Object;I)[Ljava/lang/Object;"⟩ : MethodName) (head1 (Jvm.Cond.code (⟨"java/util/Arrays", "copyOf", "([Ljava/lang/Object;I)[Ljava/lang/Object;"⟩ : MethodName) jdk_65_method_119_code 2 (some (.array (.object "java/lang/Object"))) :: ws) ({ frames := 2, cells := 1, slots := 1, locals := 33 } : Room)) (fun a U => a = #[(.ref r0), (.int (1 : Int32))] ∧ Z.Warmed39 U.vm ∧ U.heap = h0) (fun _ _ _ _ _ => True) (fun _ U o U' => ∃ v L, o = .returned v ∧ Q35_1 Z r0 kk mr x0 h0 n0 v U'.heap L ∧ FrameEnd U o U' L ({ frames := 2, cells := 1, slots := 1, locals := 33 } : Room).cells ({ frames := 2, cells := 1, slots := 1, locals := 33 } : Room).slots) := by
  refine MetFree.of_bodySF (plainFor_of_name own_pn17) hisR ?_
  intro p e s m args below meth c s₁ Bd hml0 hP hK
  obtain ⟨rfl, hZ, hh⟩ := hP
  have hx := Bd.exec
  have hby := Bd.bytes
  have hml : c.maxLocals = 2 := hml0
  have hown : s.vm.findClass "java/util/Arrays" = some m.cls := findClass_of_methodNamed Bd.named
  have hnm := (name_of_methodNamed Bd.named Bd.method).1
  have X0 : Stand p l e ({ frames := 2, cells := 1, slots := 1, locals := 33 } : Room) s m #[(.ref r0), (.int (1 : Int32))] below meth c s₁ [] 0 0 := Stand.of_body Bd
  have e0 : s₁.heap = h0 := by rw [← hh, Bd.state]; rfl
  have N0 := Fr.nil n0
  have KR : Keep h0 h0 [] := Keep.refl h0 _
  show Good p e below (fun o U' => ∃ v L, o = .returned v ∧ Q35_1 Z r0 kk mr x0 h0 n0 v U'.heap L ∧ FrameEnd s o U' L ({ frames := 2, cells := 1, slots := 1, locals := 33 } : Room).cells ({ frames := 2, cells := 1, slots := 1, locals := 33 } : Room).slots) _
  refine Good.back (S' := s₁.setTop (mkF m 0 #[.val (.ref r0), .val (.int (1 : Int32))] [])) (fun t k => castTop (own_ef_35_1 m r0 (1 : Int32)) k) ?_
  show Good p e below _ (s₁.setTop (mkF m 0 #[.val (.ref r0), .val (.int (1 : Int32))] []))
  refine Good.back (fun _ k => XS.aloadN X0.here hx rfl (hb hby own_d35_0) rfl rfl k) ?_
  refine Good.back (fun _ k => XS.iloadN X0.here hx rfl (hb hby own_d35_1) rfl k) ?_
  refine Good.back (fun _ k => XS.aloadN X0.here hx rfl (hb hby own_d35_2) rfl rfl k) ?_
  obtain ⟨T1, X1, e1, st1⟩ := gcls X0 hx hZ hown (hw _ (own_m 221 rfl)) (hw _ (own_m 222 rfl)) (hw _ (own_m 112 rfl)) (hw _ (own_m 224 rfl)) (hw _ (own_m 223 rfl)) (hw _ (own_m 225 rfl)) e0 E0 hmir (g := (mkF m 3 #[.val (.ref r0), .val (.int (1 : Int32))] [(.ref r0), (.int (1 : Int32)), (.ref r0)])) rfl (by rw [hml]; rfl) rfl (hb hby own_d35_3) (by decide) (W := 2) (by show 2 * 0 + _ ≤ _; exact Nat.le_of_eq rfl) (by decide)
  refine Good.back st1 ?_
  obtain ⟨_, _, ⟨T2, L2, k2, n2⟩, -, X2, ⟨Lc2, hQ2, l2, y2, z2⟩, st2⟩ := Jvm.LawKit.callS X1 hx (y := (⟨"java/util/Arrays", "copyOf", "([Ljava/lang/Object;ILjava/lang/Class;)[Ljava/lang/Object;"⟩ : MethodName)) hown (mvT hZ (hw _ (own_m 227 rfl))) (mvT hZ (hw _ (own_m 228 rfl))) (mvT hZ (hw _ (own_m 219 rfl))) (mvT hZ (hw _ (own_m 229 rfl))) (by decide) (backOf (W := 0) (rm36_1 l Z a0 hw [] r0 mr kk x0 h0 n0 Z0 Va (by first | assumption | decide) E_x0) hZ (hw _ (own_m 229 rfl)) (hw _ (own_m 219 rfl)) (by decide) (by decide)) (g := (mkF m 6 #[.val (.ref r0), .val (.int (1 : Int32))] [(.ref mr), (.int (1 : Int32)), (.ref r0)])) rfl (by rw [hml]; rfl) (argsL := [(.ref r0), (.int (1 : Int32)), (.ref mr)]) (rest := []) (lenOf own_pd466 rfl) rfl (by show 2 * 0 + _ ≤ _; exact Nat.le_of_eq rfl) (hb hby own_d35_6) (fun _ _ => ⟨rfl, e1, (by decide : 0 + 1 ≤ _), (by decide : 0 + 1 ≤ _)⟩)
  dsimp only [Pt.U, Pt.locs, Pt.cells, Pt.slots] at X2 l2 y2 z2 st2 hQ2
  subst l2 y2 z2
  obtain ⟨cp_2, kc_2, rfl, N2q, Kq2, o2_0, o2_1, o2_2, o2_3⟩ := hQ2
  have N2 := Fr.app N0 N2q
  have Z3 : n0 ≤ T2.heap.size := Nat.le_trans Z0 Kq2.1
  have K4 : Keep h0 T2.heap [] := KR.trans Kq2 all0
  have g_cp_2 : n0 ≤ cp_2 := Nat.le_trans Z0 o2_0
  have sz_cp_2 : h0.size ≤ cp_2 := Nat.le_trans KR.1 o2_0
  refine Good.back st2 ?_
  show Good p e below _ (T2.setTop (mkF m 9 #[.val (.ref r0), .val (.int (1 : Int32))] [(.ref cp_2)]))
  obtain ⟨fs5, hr5, hrun5, hended5, hW5, hsame5⟩ := X2.leave (v := some (.ref cp_2)) (fun h => by rw [Bd.returns] at h; cases h)
  refine Good.done (retOut X2 hx Bd.returns rfl (Or.inr (Or.inr (Or.inr (Or.inr ⟨rfl, rfl, rfl⟩)))) (hb hby own_d35_9) hr5) hrun5 hended5 ⟨_, _, rfl, ?_, ⟨_, rfl⟩, hW5, hsame5.mono (by decide) (by decide)⟩
  show Q35_1 Z r0 kk mr x0 h0 n0 _ T2.heap _
  exact ⟨cp_2, kc_2, rfl, N2, K4, sz_cp_2, o2_1, o2_2, o2_3⟩
theorem own_pd473 : parseMethodDescriptor "([Ljava/lang/Object;I)[Ljava/lang/Object;" = some ⟨[(.array (.object "java/lang/Object")), .int], some (.array (.object "java/lang/Object"))⟩ := by decide +kernel
theorem own_d34_0 : decode jdk_38_method_16_code 0 = .ok (.aload_n 0, 1) := by decide +kernel
theorem own_d34_1 : decode jdk_38_method_16_code 1 = .ok (.getfield 9, 3) := by decide +kernel
theorem own_d34_4 : decode jdk_38_method_16_code 4 = .ok (.aload_n 0, 1) := by decide +kernel
theorem own_d34_5 : decode jdk_38_method_16_code 5 = .ok (.getfield 48, 3) := by decide +kernel
theorem own_d34_8 : decode jdk_38_method_16_code 8 = .ok (.invokestatic 66, 3) := by decide +kernel
theorem own_d34_11 : decode jdk_38_method_16_code 11 = .ok (.areturn, 1) := by decide +kernel
theorem own_ef_34_1 (m : MethodId) (x0 : Addr) : entryFrame m #[(.ref x0)] 1 = mkF m 0 #[.val (.ref x0)] [] := by first | (simp [entryFrame, mkF, argsToLocals, Value.category]; done) | rfl
def Q34_1 (Z : State) (r0 : Addr) (ar : Addr) (kk : ClassId) (mr : Addr) (x0 : Addr) (h0 : Heap) (n0 : Nat) (v : Option Value) (h : Heap) (L : List Loc) : Prop := ∃ (cp : Addr) (kc : ClassId), v = some (.ref cp) ∧ Fr n0 L ∧ Keep h0 h [] ∧ h0.size ≤ cp ∧ Exa Z h cp "[Ljava/lang/Object;" ∧ Arv Z h cp kc (.object "java/lang/Object") (1 : Int32) [(.ref x0)] .null ∧ Ovr Z kc "java/lang/Object"
set_option maxRecDepth 65536 in
set_option maxHeartbeats 40000000 in
theorem rm34_1 (l : Launch) (Z : State) (a0 : Array Value) (hw : ∀ d ∈ tables_1, d.before a0 Z = true) (ws : List Jvm.Cond) (r0 : Addr) (ar : Addr) (kk : ClassId) (mr : Addr) (x0 : Addr) (h0 : Heap) (n0 : Nat) (Z0 : n0 ≤ h0.size) (Fe : Fld Z h0 r0 "java/util/ArrayList" "elementData" "[Ljava/lang/Object;" (.ref ar)) (Fs : Fld Z h0 r0 "java/util/ArrayList" "size" "I" (.int (1 : Int32))) (Ea : Exa Z h0 ar "[Ljava/lang/Object;") (Va : Arv Z h0 ar kk (.object "java/lang/Object") (10 : Int32) [(.ref x0), .null, .null, .null, .null, .null, .null, .null, .null, .null] .null) (hmir : Mir Z "[Ljava/lang/Object;" mr) (E_x0 : Exa Z h0 x0 "com/example/liken/liken/core/Token") :
    MetFree l (⟨"java/util/ArrayList", "toArray", "()[Ljava/lang/Object;"⟩ : MethodName) (head1 (Jvm.Cond.code (⟨"java/util/ArrayList", "toArray", "()[Ljava/lang/Object;"⟩ : MethodName) jdk_38_method_16_code 1 (some (.array (.object "java/lang/Object"))) :: ws) ({ frames := 3, cells := 1, slots := 1, locals := 46 } : Room)) (fun a U => a = #[(.ref r0)] ∧ Z.Warmed39 U.vm ∧ U.heap = h0) (fun _ _ _ _ _ => True) (fun _ U o U' => ∃ v L, o = .returned v ∧ Q34_1 Z r0 ar kk mr x0 h0 n0 v U'.heap L ∧ FrameEnd U o U' L ({ frames := 3, cells := 1, slots := 1, locals := 46 } : Room).cells ({ frames := 3, cells := 1, slots := 1, locals := 46 } : Room).slots) := by
  refine MetFree.of_bodySF (plainFor_of_name own_pn11) hisR ?_
  intro p e s m args below meth c s₁ Bd hml0 hP hK
  obtain ⟨rfl, hZ, hh⟩ := hP
  have hx := Bd.exec
  have hby := Bd.bytes
  have hml : c.maxLocals = 1 := hml0
  have hown : s.vm.findClass "java/util/ArrayList" = some m.cls := findClass_of_methodNamed Bd.named
  have hnm := (name_of_methodNamed Bd.named Bd.method).1
  have X0 : Stand p l e ({ frames := 3, cells := 1, slots := 1, locals := 46 } : Room) s m #[(.ref r0)] below meth c s₁ [] 0 0 := Stand.of_body Bd
  have e0 : s₁.heap = h0 := by rw [← hh, Bd.state]; rfl
  have N0 := Fr.nil n0
  have KR : Keep h0 h0 [] := Keep.refl h0 _
  show Good p e below (fun o U' => ∃ v L, o = .returned v ∧ Q34_1 Z r0 ar kk mr x0 h0 n0 v U'.heap L ∧ FrameEnd s o U' L ({ frames := 3, cells := 1, slots := 1, locals := 46 } : Room).cells ({ frames := 3, cells := 1, slots := 1, locals := 46 } : Room).slots) _
  refine Good.back (S' := s₁.setTop (mkF m 0 #[.val (.ref r0)] [])) (fun t k => castTop (own_ef_34_1 m r0) k) ?_
  show Good p e below _ (s₁.setTop (mkF m 0 #[.val (.ref r0)] []))
  refine Good.back (fun _ k => XS.aloadN X0.here hx rfl (hb hby own_d34_0) rfl rfl k) ?_
  obtain ⟨T1, X1, e1, st1⟩ := getF X0 hx hZ hown (host := "") (Or.inl (hw _ (own_m 102 rfl))) Via.refl e0 Fe (g := (mkF m 1 #[.val (.ref r0)] [(.ref r0)])) rfl rfl (hb hby own_d34_1)
  refine Good.back st1 ?_
  refine Good.back (fun _ k => XS.aloadN X1.here hx rfl (hb hby own_d34_4) rfl rfl k) ?_
  obtain ⟨T2, X2, e2, st2⟩ := getF X1 hx hZ hown (host := "") (Or.inl (hw _ (own_m 135 rfl))) Via.refl e1 Fs (g := (mkF m 5 #[.val (.ref r0)] [(.ref r0), (.ref ar)])) rfl rfl (hb hby own_d34_5)
  refine Good.back st2 ?_
  obtain ⟨_, _, ⟨T3, L3, k3, n3⟩, -, X3, ⟨Lc3, hQ3, l3, y3, z3⟩, st3⟩ := Jvm.LawKit.callS X2 hx (y := (⟨"java/util/Arrays", "copyOf", "([Ljava/lang/Object;I)[Ljava/lang/Object;"⟩ : MethodName)) hown (mvT hZ (hw _ (own_m 217 rfl))) (mvT hZ (hw _ (own_m 218 rfl))) (mvT hZ (hw _ (own_m 219 rfl))) (mvT hZ (hw _ (own_m 220 rfl))) (by decide) (backOf (W := 0) (rm35_1 l Z a0 hw [] ar kk mr x0 h0 n0 Z0 Ea Va (by first | assumption | decide) E_x0) hZ (hw _ (own_m 220 rfl)) (hw _ (own_m 219 rfl)) (by decide) (by decide)) (g := (mkF m 8 #[.val (.ref r0)] [(.int (1 : Int32)), (.ref ar)])) rfl (by rw [hml]; rfl) (argsL := [(.ref ar), (.int (1 : Int32))]) (rest := []) (lenOf own_pd473 rfl) rfl (by show 2 * 0 + _ ≤ _; exact Nat.le_of_eq rfl) (hb hby own_d34_8) (fun _ _ => ⟨rfl, e2, (by decide : 0 + 1 ≤ _), (by decide : 0 + 1 ≤ _)⟩)
  dsimp only [Pt.U, Pt.locs, Pt.cells, Pt.slots] at X3 l3 y3 z3 st3 hQ3
  subst l3 y3 z3
  obtain ⟨cp_3, kc_3, rfl, N3q, Kq3, o3_0, o3_1, o3_2, o3_3⟩ := hQ3
  have N3 := Fr.app N0 N3q
  have Z4 : n0 ≤ T3.heap.size := Nat.le_trans Z0 Kq3.1
  have K5 : Keep h0 T3.heap [] := KR.trans Kq3 all0
  have g_cp_3 : n0 ≤ cp_3 := Nat.le_trans Z0 o3_0
  have sz_cp_3 : h0.size ≤ cp_3 := Nat.le_trans KR.1 o3_0
  refine Good.back st3 ?_
  show Good p e below _ (T3.setTop (mkF m 11 #[.val (.ref r0)] [(.ref cp_3)]))
  obtain ⟨fs6, hr6, hrun6, hended6, hW6, hsame6⟩ := X3.leave (v := some (.ref cp_3)) (fun h => by rw [Bd.returns] at h; cases h)
  refine Good.done (retOut X3 hx Bd.returns rfl (Or.inr (Or.inr (Or.inr (Or.inr ⟨rfl, rfl, rfl⟩)))) (hb hby own_d34_11) hr6) hrun6 hended6 ⟨_, _, rfl, ?_, ⟨_, rfl⟩, hW6, hsame6.mono (by decide) (by decide)⟩
  show Q34_1 Z r0 ar kk mr x0 h0 n0 _ T3.heap _
  exact ⟨cp_3, kc_3, rfl, N3, K5, sz_cp_3, o3_1, o3_2, o3_3⟩
theorem own_pd480 : parseMethodDescriptor "(Ljava/lang/Object;)V" = some ⟨[(.object "java/lang/Object")], none⟩ := by decide +kernel
theorem own_d38_0 : decode jdk_40_method_47_code 0 = .ok (.aload_n 0, 1) := by decide +kernel
theorem own_d38_1 : decode jdk_40_method_47_code 1 = .ok (.arraylength, 1) := by decide +kernel
theorem own_d38_2 : decode jdk_40_method_47_code 2 = .ok (.tableswitch 57 0 2 #[26, 32, 43], 26) := by decide +kernel
theorem own_d38_34 : decode jdk_40_method_47_code 34 = .ok (.new 96, 3) := by decide +kernel
theorem own_d38_37 : decode jdk_40_method_47_code 37 = .ok (.dup, 1) := by decide +kernel
theorem own_d38_38 : decode jdk_40_method_47_code 38 = .ok (.aload_n 0, 1) := by decide +kernel
theorem own_d38_39 : decode jdk_40_method_47_code 39 = .ok (.iconst 0, 1) := by decide +kernel
theorem own_d38_40 : decode jdk_40_method_47_code 40 = .ok (.aaload, 1) := by decide +kernel
theorem own_d38_41 : decode jdk_40_method_47_code 41 = .ok (.invokespecial 98, 3) := by decide +kernel
theorem own_d38_44 : decode jdk_40_method_47_code 44 = .ok (.areturn, 1) := by decide +kernel
theorem own_ef_38_1 (m : MethodId) (x0 : Addr) : entryFrame m #[(.ref x0)] 2 = mkF m 0 #[.val (.ref x0), .unset] [] := by first | (simp [entryFrame, mkF, argsToLocals, Value.category]; done) | rfl
def Q38_1 (Z : State) (r0 : Addr) (kk : ClassId) (x0 : Addr) (em : Addr) (h0 : Heap) (n0 : Nat) (v : Option Value) (h : Heap) (L : List Loc) : Prop := ∃ (li : Addr), v = some (.ref li) ∧ Fr n0 L ∧ Keep h0 h [] ∧ h0.size ≤ li ∧ Exa Z h li "java/util/ImmutableCollections$List12" ∧ Fld Z h li "java/util/ImmutableCollections$List12" "e0" "Ljava/lang/Object;" (.ref x0) ∧ Fld Z h li "java/util/ImmutableCollections$List12" "e1" "Ljava/lang/Object;" (.ref em)
set_option maxRecDepth 65536 in
set_option maxHeartbeats 40000000 in
theorem rm38_1 (l : Launch) (Z : State) (a0 : Array Value) (hw : ∀ d ∈ tables_1, d.before a0 Z = true) (ws : List Jvm.Cond) (r0 : Addr) (kk : ClassId) (x0 : Addr) (em : Addr) (h0 : Heap) (n0 : Nat) (Z0 : n0 ≤ h0.size) (Va : Arv Z h0 r0 kk (.object "java/lang/Object") (1 : Int32) [(.ref x0)] .null) (E_x0 : Exa Z h0 x0 "com/example/liken/liken/core/Token") (S_em : Sta Z h0 "java/util/ImmutableCollections" "EMPTY" "Ljava/lang/Object;" (.ref em)) :
    MetFree l (⟨"java/util/List", "of", "([Ljava/lang/Object;)Ljava/util/List;"⟩ : MethodName) (head1 (Jvm.Cond.code (⟨"java/util/List", "of", "([Ljava/lang/Object;)Ljava/util/List;"⟩ : MethodName) jdk_40_method_47_code 2 (some (.object "java/util/List")) :: ws) ({ frames := 5, cells := 1, slots := 2, locals := 62 } : Room)) (fun a U => a = #[(.ref r0)] ∧ Z.Warmed39 U.vm ∧ U.heap = h0) (fun _ _ _ _ _ => True) (fun _ U o U' => ∃ v L, o = .returned v ∧ Q38_1 Z r0 kk x0 em h0 n0 v U'.heap L ∧ FrameEnd U o U' L ({ frames := 5, cells := 1, slots := 2, locals := 62 } : Room).cells ({ frames := 5, cells := 1, slots := 2, locals := 62 } : Room).slots) := by
  refine MetFree.of_bodySF (plainFor_of_name own_pn14) hisR ?_
  intro p e s m args below meth c s₁ Bd hml0 hP hK
  obtain ⟨rfl, hZ, hh⟩ := hP
  have hx := Bd.exec
  have hby := Bd.bytes
  have hml : c.maxLocals = 2 := hml0
  have hown : s.vm.findClass "java/util/List" = some m.cls := findClass_of_methodNamed Bd.named
  have hnm := (name_of_methodNamed Bd.named Bd.method).1
  have X0 : Stand p l e ({ frames := 5, cells := 1, slots := 2, locals := 62 } : Room) s m #[(.ref r0)] below meth c s₁ [] 0 0 := Stand.of_body Bd
  have e0 : s₁.heap = h0 := by rw [← hh, Bd.state]; rfl
  have N0 := Fr.nil n0
  have KR : Keep h0 h0 [] := Keep.refl h0 _
  show Good p e below (fun o U' => ∃ v L, o = .returned v ∧ Q38_1 Z r0 kk x0 em h0 n0 v U'.heap L ∧ FrameEnd s o U' L ({ frames := 5, cells := 1, slots := 2, locals := 62 } : Room).cells ({ frames := 5, cells := 1, slots := 2, locals := 62 } : Room).slots) _
  refine Good.back (S' := s₁.setTop (mkF m 0 #[.val (.ref r0), .unset] [])) (fun t k => castTop (own_ef_38_1 m r0) k) ?_
  show Good p e below _ (s₁.setTop (mkF m 0 #[.val (.ref r0), .unset] []))
  refine Good.back (fun _ k => XS.aloadN X0.here hx rfl (hb hby own_d38_0) rfl rfl k) ?_
  have fc1 := Va
  obtain ⟨cl1, Ar1, qk1, S1, N1', H1, G1⟩ := fc1
  refine Good.back (X0.arraylength hx (by rw [e0]; exact Ar1.1) (State.isArrayOf_alike hZ.alike Ar1.2.1) (g := (mkF m 1 #[.val (.ref r0), .unset] [(.ref r0)])) rfl rfl (hb hby own_d38_1)) ?_
  rw [len_of S1 N1']
  show Good p e below _ (s₁.setTop (mkF m 2 #[.val (.ref r0), .unset] [(.int (1 : Int32))]))
  refine Good.back (fun _ k => XS.tswIn X0.here hx rfl (pc0 := 2) (pc' := 34) rfl (hb hby own_d38_2) rfl (by decide) (o := 32) (by decide) (by decide) (by decide) k) ?_
  show Good p e below _ (s₁.setTop (mkF m 34 #[.val (.ref r0), .unset] []))
  obtain ⟨T2, h2, X2, e2, E2, A2, D2, -, st2⟩ := newO X0 hx hZ hown (hw _ (own_m 242 rfl)) (hw _ (own_m 243 rfl)) (hw _ (own_m 244 rfl)) e0 (g := (mkF m 34 #[.val (.ref r0), .unset] [])) rfl (hb hby own_d38_34) (by decide) (by decide)
  obtain ⟨b2, g2⟩ : ∃ z, z = h0.size := ⟨_, rfl⟩
  rw [← g2] at A2 D2 st2
  refine Good.back st2 ?_
  have g_b2 : n0 ≤ b2 := Nat.le_trans Z0 (Nat.le_of_eq g2.symm)
  have sz_b2 : h0.size ≤ b2 := Nat.le_trans KR.1 (Nat.le_of_eq g2.symm)
  have Z3 : n0 ≤ h2.size := Nat.le_trans Z0 E2.1
  have K4 : Keep h0 h2 [] := KR.ext E2
  have f_5 : Exa Z h2 b2 "java/util/ImmutableCollections$List12" := A2
  have f_6 : Fld Z h2 b2 "java/util/ImmutableCollections$List12" "e0" "Ljava/lang/Object;" .null := D2 (Or.inr (hw _ (own_m 267 rfl))) (ty := (.object "java/lang/Object")) (by decide)
  have f_7 : Fld Z h2 b2 "java/util/ImmutableCollections$List12" "e1" "Ljava/lang/Object;" .null := D2 (Or.inr (hw _ (own_m 270 rfl))) (ty := (.object "java/lang/Object")) (by decide)
  refine Good.back (fun _ k => XS.dup X2.here hx rfl (hb hby own_d38_37) rfl rfl k) ?_
  refine Good.back (fun _ k => XS.aloadN X2.here hx rfl (hb hby own_d38_38) rfl rfl k) ?_
  refine Good.back (fun _ k => XS.iconst X2.here hx rfl (hb hby own_d38_39) k) ?_
  have f_8 : Arv Z h2 r0 kk (.object "java/lang/Object") (1 : Int32) [(.ref x0)] .null := Arv.ext Va E2
  have fc9 := f_8
  obtain ⟨cl9, Ar9, qk9, S9, N9', H9, G9⟩ := fc9
  have hin9 : ¬ ((0 : Int32) < 0 ∨ cl9.slots.size ≤ ((0 : Int32)).toNatClampNeg) := inb_of S9 ⟨by decide, by decide⟩
  have hat9 : cl9.slots[((0 : Int32)).toNatClampNeg]? = some (.ref x0) := Has.at H9 hin9 rfl
  refine Good.back (X2.aaload hx (j := (0 : Int32)) (v := (.ref x0)) (by rw [e2]; exact Ar9.1) (State.isArrayOf_alike hZ.alike Ar9.2.1) rfl Ar9.2.2 hin9 hat9 (g := (mkF m 40 #[.val (.ref r0), .unset] [(.int (0 : Int32)), (.ref r0), (.ref b2), (.ref b2)])) rfl rfl (hb hby own_d38_40)) ?_
  have f_11 : Sta Z h2 "java/util/ImmutableCollections" "EMPTY" "Ljava/lang/Object;" (.ref em) := Sta.ext E2 S_em
  obtain ⟨_, _, ⟨T10, L10, k10, n10⟩, -, X10, ⟨Lc10, hQ10, l10, y10, z10⟩, st10⟩ := X2.specialBack hx (y := (⟨"java/util/ImmutableCollections$List12", "<init>", "(Ljava/lang/Object;)V"⟩ : MethodName)) rfl hown (mvT hZ (hw _ (own_m 245 rfl))) (mvT hZ (hw _ (own_m 246 rfl))) (mvT hZ (hw _ (own_m 248 rfl))) (by decide) (backOf (W := 1) (rm39 l Z a0 hw [] b2 x0 em h2 n0 Z3 f_5 g_b2 f_6 f_7 f_11) hZ (hw _ (own_m 248 rfl)) (hw _ (own_m 244 rfl)) (by decide) (by decide)) (g := (mkF m 41 #[.val (.ref r0), .unset] [(.ref x0), (.ref b2), (.ref b2)])) rfl (by rw [hml]; rfl) (Steps.refl _) (a := b2) (argsL := [(.ref x0)]) (rest := [(.ref b2)]) (lenOf own_pd480 rfl) rfl (by show 2 * 0 + _ ≤ _; exact Nat.le_of_eq rfl) (hb hby own_d38_41) (fun _ _ => ⟨rfl, e2, (by decide : 1 + 0 ≤ _), (by decide : 2 + 0 ≤ _)⟩)
  dsimp only [Pt.U, Pt.locs, Pt.cells, Pt.slots] at X10 l10 y10 z10 st10 hQ10
  subst l10 y10 z10
  obtain ⟨rfl, N10q, Kq10, o10_0, o10_1⟩ := hQ10
  have N10 := Fr.app N0 N10q
  have Z12 : n0 ≤ T10.heap.size := Nat.le_trans Z3 Kq10.1
  have K13 : Keep h0 T10.heap [] := K4.trans Kq10 (allS (Or.inr sz_b2) all0)
  refine Good.back (fun _ k => st10.trans k) ?_
  show Good p e below _ (T10.setTop (mkF m 44 #[.val (.ref r0), .unset] [(.ref b2)]))
  obtain ⟨fs14, hr14, hrun14, hended14, hW14, hsame14⟩ := X10.leave (v := some (.ref b2)) (fun h => by rw [Bd.returns] at h; cases h)
  refine Good.done (retOut X10 hx Bd.returns rfl (Or.inr (Or.inr (Or.inr (Or.inr ⟨rfl, rfl, rfl⟩)))) (hb hby own_d38_44) hr14) hrun14 hended14 ⟨_, _, rfl, ?_, ⟨_, rfl⟩, hW14, hsame14.mono (by decide) (by decide)⟩
  show Q38_1 Z r0 kk x0 em h0 n0 _ T10.heap _
  have f_15 : Exa Z T10.heap b2 "java/util/ImmutableCollections$List12" := Exa.keep f_5 Kq10
  exact ⟨b2, rfl, N10, K13, sz_b2, f_15, o10_0, o10_1⟩
theorem own_pd491 : parseMethodDescriptor "()Z" = some ⟨[], some .boolean⟩ := by decide +kernel
theorem own_pd492 : parseMethodDescriptor "([Ljava/lang/Object;)Ljava/util/List;" = some ⟨[(.array (.object "java/lang/Object"))], some (.object "java/util/List")⟩ := by decide +kernel
theorem own_pn18 : plainName "java/util/ImmutableCollections" = true := by first | (simp [plainName, overriddenIn]; done) | decide +kernel
theorem own_d21_0 : decode jdk_56_method_3_code 0 = .ok (.aload_n 0, 1) := by decide +kernel
theorem own_d21_1 : decode jdk_56_method_3_code 1 = .ok (.instanceof 10, 3) := by decide +kernel
theorem own_d21_4 : decode jdk_56_method_3_code 4 = .ok (.ifCond .ne 22, 3) := by decide +kernel
theorem own_d21_7 : decode jdk_56_method_3_code 7 = .ok (.aload_n 0, 1) := by decide +kernel
theorem own_d21_8 : decode jdk_56_method_3_code 8 = .ok (.instanceof 12, 3) := by decide +kernel
theorem own_d21_11 : decode jdk_56_method_3_code 11 = .ok (.ifCond .eq 20, 3) := by decide +kernel
theorem own_d21_31 : decode jdk_56_method_3_code 31 = .ok (.aload_n 0, 1) := by decide +kernel
theorem own_d21_32 : decode jdk_56_method_3_code 32 = .ok (.invokeinterface 20 1, 5) := by decide +kernel
theorem own_d21_37 : decode jdk_56_method_3_code 37 = .ok (.ifCond .eq 7, 3) := by decide +kernel
theorem own_d21_44 : decode jdk_56_method_3_code 44 = .ok (.aload_n 0, 1) := by decide +kernel
theorem own_d21_45 : decode jdk_56_method_3_code 45 = .ok (.invokeinterface 30 1, 5) := by decide +kernel
theorem own_d21_50 : decode jdk_56_method_3_code 50 = .ok (.invokestatic 34, 3) := by decide +kernel
theorem own_d21_53 : decode jdk_56_method_3_code 53 = .ok (.areturn, 1) := by decide +kernel
theorem own_ef_21_1 (m : MethodId) (x0 : Addr) : entryFrame m #[(.ref x0)] 2 = mkF m 0 #[.val (.ref x0), .unset] [] := by first | (simp [entryFrame, mkF, argsToLocals, Value.category]; done) | rfl
def Q21_1 (Z : State) (r0 : Addr) (ar : Addr) (kk : ClassId) (mr : Addr) (x0 : Addr) (em : Addr) (h0 : Heap) (n0 : Nat) (v : Option Value) (h : Heap) (L : List Loc) : Prop := ∃ (li : Addr), v = some (.ref li) ∧ Fr n0 L ∧ Keep h0 h [] ∧ h0.size ≤ li ∧ Exa Z h li "java/util/ImmutableCollections$List12" ∧ Fld Z h li "java/util/ImmutableCollections$List12" "e0" "Ljava/lang/Object;" (.ref x0) ∧ Fld Z h li "java/util/ImmutableCollections$List12" "e1" "Ljava/lang/Object;" (.ref em)
set_option maxRecDepth 65536 in
set_option maxHeartbeats 40000000 in
theorem rm21_1 (l : Launch) (Z : State) (a0 : Array Value) (hw : ∀ d ∈ tables_1, d.before a0 Z = true) (ws : List Jvm.Cond) (r0 : Addr) (ar : Addr) (kk : ClassId) (mr : Addr) (x0 : Addr) (em : Addr) (h0 : Heap) (n0 : Nat) (Z0 : n0 ≤ h0.size) (E0 : Exa Z h0 r0 "java/util/ArrayList") (Fe : Fld Z h0 r0 "java/util/ArrayList" "elementData" "[Ljava/lang/Object;" (.ref ar)) (Fs : Fld Z h0 r0 "java/util/ArrayList" "size" "I" (.int (1 : Int32))) (Ea : Exa Z h0 ar "[Ljava/lang/Object;") (Va : Arv Z h0 ar kk (.object "java/lang/Object") (10 : Int32) [(.ref x0), .null, .null, .null, .null, .null, .null, .null, .null, .null] .null) (hmir : Mir Z "[Ljava/lang/Object;" mr) (E_x0 : Exa Z h0 x0 "com/example/liken/liken/core/Token") (S_em : Sta Z h0 "java/util/ImmutableCollections" "EMPTY" "Ljava/lang/Object;" (.ref em)) :
    MetFree l (⟨"java/util/ImmutableCollections", "listCopy", "(Ljava/util/Collection;)Ljava/util/List;"⟩ : MethodName) (head1 (Jvm.Cond.code (⟨"java/util/ImmutableCollections", "listCopy", "(Ljava/util/Collection;)Ljava/util/List;"⟩ : MethodName) jdk_56_method_3_code 2 (some (.object "java/util/List")) :: ws) ({ frames := 6, cells := 2, slots := 3, locals := 75 } : Room)) (fun a U => a = #[(.ref r0)] ∧ Z.Warmed39 U.vm ∧ U.heap = h0) (fun _ _ _ _ _ => True) (fun _ U o U' => ∃ v L, o = .returned v ∧ Q21_1 Z r0 ar kk mr x0 em h0 n0 v U'.heap L ∧ FrameEnd U o U' L ({ frames := 6, cells := 2, slots := 3, locals := 75 } : Room).cells ({ frames := 6, cells := 2, slots := 3, locals := 75 } : Room).slots) := by
  refine MetFree.of_bodySF (plainFor_of_name own_pn18) hisR ?_
  intro p e s m args below meth c s₁ Bd hml0 hP hK
  obtain ⟨rfl, hZ, hh⟩ := hP
  have hx := Bd.exec
  have hby := Bd.bytes
  have hml : c.maxLocals = 2 := hml0
  have hown : s.vm.findClass "java/util/ImmutableCollections" = some m.cls := findClass_of_methodNamed Bd.named
  have hnm := (name_of_methodNamed Bd.named Bd.method).1
  have X0 : Stand p l e ({ frames := 6, cells := 2, slots := 3, locals := 75 } : Room) s m #[(.ref r0)] below meth c s₁ [] 0 0 := Stand.of_body Bd
  have e0 : s₁.heap = h0 := by rw [← hh, Bd.state]; rfl
  have N0 := Fr.nil n0
  have KR : Keep h0 h0 [] := Keep.refl h0 _
  show Good p e below (fun o U' => ∃ v L, o = .returned v ∧ Q21_1 Z r0 ar kk mr x0 em h0 n0 v U'.heap L ∧ FrameEnd s o U' L ({ frames := 6, cells := 2, slots := 3, locals := 75 } : Room).cells ({ frames := 6, cells := 2, slots := 3, locals := 75 } : Room).slots) _
  refine Good.back (S' := s₁.setTop (mkF m 0 #[.val (.ref r0), .unset] [])) (fun t k => castTop (own_ef_21_1 m r0) k) ?_
  show Good p e below _ (s₁.setTop (mkF m 0 #[.val (.ref r0), .unset] []))
  refine Good.back (fun _ k => XS.aloadN X0.here hx rfl (hb hby own_d21_0) rfl rfl k) ?_
  obtain ⟨T1, X1, e1, st1⟩ := instNo X0 hx hZ hown (hw _ (own_m 124 rfl)) e0 E0 (own_nsNo (hw _ (own_m 109 rfl)) (hw _ (own_m 243 rfl)) (NS.step (hw _ (own_m 109 rfl)) (NS.step (hw _ (own_m 110 rfl)) (NS.step (hw _ (own_m 111 rfl)) (own_nsRoot (hw _ (own_m 112 rfl)) (hw _ (own_m 243 rfl)) (by decide)) (by decide)) (by decide)) (by decide)) (by decide)) (g := (mkF m 1 #[.val (.ref r0), .unset] [(.ref r0)])) rfl rfl (hb hby own_d21_1)
  refine Good.back st1 ?_
  show Good p e below _ (T1.setTop (mkF m 4 #[.val (.ref r0), .unset] [(.int (0 : Int32))]))
  refine Good.back (fun _ k => XS.ifNo X1.here hx rfl (hb hby own_d21_4) rfl ((if0 _ _).trans (teq (by decide : ((0 : Int32) = (0 : Int32)))).2) k) ?_
  show Good p e below _ (T1.setTop (mkF m 7 #[.val (.ref r0), .unset] []))
  refine Good.back (fun _ k => XS.aloadN X1.here hx rfl (hb hby own_d21_7) rfl rfl k) ?_
  obtain ⟨T2, X2, e2, st2⟩ := instNo X1 hx hZ hown (hw _ (own_m 125 rfl)) e1 E0 (own_nsNo (hw _ (own_m 109 rfl)) (hw _ (own_m 290 rfl)) (NS.step (hw _ (own_m 109 rfl)) (NS.step (hw _ (own_m 110 rfl)) (NS.step (hw _ (own_m 111 rfl)) (own_nsRoot (hw _ (own_m 112 rfl)) (hw _ (own_m 290 rfl)) (by decide)) (by decide)) (by decide)) (by decide)) (by decide)) (g := (mkF m 8 #[.val (.ref r0), .unset] [(.ref r0)])) rfl rfl (hb hby own_d21_8)
  refine Good.back st2 ?_
  show Good p e below _ (T2.setTop (mkF m 11 #[.val (.ref r0), .unset] [(.int (0 : Int32))]))
  refine Good.back (fun _ k => XS.ifYes X2.here hx rfl (pc0 := 11) (pc' := 31) rfl (hb hby own_d21_11) rfl ((if0 _ _).trans (teq (by decide : ((0 : Int32) = (0 : Int32)))).1) (by decide) (by decide) k) ?_
  show Good p e below _ (T2.setTop (mkF m 31 #[.val (.ref r0), .unset] []))
  refine Good.back (fun _ k => XS.aloadN X2.here hx rfl (hb hby own_d21_31) rfl rfl k) ?_
  obtain ⟨cq3, kq3, q3a, q3b, q3c⟩ := isOf hZ e2 E0
  obtain ⟨_, _, ⟨T3, L3, k3, n3⟩, -, X3, ⟨Lc3, hQ3, l3, y3, z3⟩, st3⟩ := X2.interfaceBack hx (xi := (⟨"java/util/Collection", "isEmpty", "()Z"⟩ : MethodName)) (y := (⟨"java/util/ArrayList", "isEmpty", "()Z"⟩ : MethodName)) hown (mvT hZ (hw _ (own_m 126 rfl))) (mvT hZ (hw _ (own_m 127 rfl))) (mvT hZ (hw _ (own_m 128 rfl))) (mvT hZ (hw _ (own_m 129 rfl))) (mvT hZ (hw _ (own_m 130 rfl))) (mvT hZ (hw _ (own_m 131 rfl))) (mvT hZ (hw _ (own_m 132 rfl))) (mvT hZ (hw _ (own_m 133 rfl))) (by decide) (backOf (W := 0) (rm22_1 l Z a0 hw [] r0  h0 n0 Z0 Fs) hZ (hw _ (own_m 134 rfl)) (hw _ (own_m 82 rfl)) (by decide) (by decide)) q3a q3b q3c (g := (mkF m 32 #[.val (.ref r0), .unset] [(.ref r0)])) rfl (by rw [hml]; rfl) (Steps.refl _) (argsL := []) (rest := []) (lenOf own_pd491 rfl) rfl (by show 2 * 0 + _ ≤ _; exact Nat.le_of_eq rfl) (hb hby own_d21_32) (fun _ _ => ⟨rfl, e2, (by decide : 0 + 0 ≤ _), (by decide : 0 + 0 ≤ _)⟩)
  dsimp only [Pt.U, Pt.locs, Pt.cells, Pt.slots] at X3 l3 y3 z3 st3 hQ3
  subst l3 y3 z3
  obtain ⟨rfl, N3q, eh3⟩ := hQ3
  have N3 := Fr.app N0 N3q
  refine Good.back (fun _ k => st3.trans k) ?_
  show Good p e below _ (T3.setTop (mkF m 37 #[.val (.ref r0), .unset] [(.int (0 : Int32))]))
  refine Good.back (fun _ k => XS.ifYes X3.here hx rfl (pc0 := 37) (pc' := 44) rfl (hb hby own_d21_37) rfl ((if0 _ _).trans (teq (by decide : ((0 : Int32) = (0 : Int32)))).1) (by decide) (by decide) k) ?_
  show Good p e below _ (T3.setTop (mkF m 44 #[.val (.ref r0), .unset] []))
  refine Good.back (fun _ k => XS.aloadN X3.here hx rfl (hb hby own_d21_44) rfl rfl k) ?_
  obtain ⟨cq4, kq4, q4a, q4b, q4c⟩ := isOf hZ eh3 E0
  obtain ⟨_, _, ⟨T4, L4, k4, n4⟩, -, X4, ⟨Lc4, hQ4, l4, y4, z4⟩, st4⟩ := X3.interfaceBack hx (xi := (⟨"java/util/Collection", "toArray", "()[Ljava/lang/Object;"⟩ : MethodName)) (y := (⟨"java/util/ArrayList", "toArray", "()[Ljava/lang/Object;"⟩ : MethodName)) hown (mvT hZ (hw _ (own_m 209 rfl))) (mvT hZ (hw _ (own_m 210 rfl))) (mvT hZ (hw _ (own_m 211 rfl))) (mvT hZ (hw _ (own_m 212 rfl))) (mvT hZ (hw _ (own_m 213 rfl))) (mvT hZ (hw _ (own_m 214 rfl))) (mvT hZ (hw _ (own_m 215 rfl))) (mvT hZ (hw _ (own_m 133 rfl))) (by decide) (backOf (W := 0) (rm34_1 l Z a0 hw [] r0 ar kk mr x0 h0 n0 Z0 Fe Fs Ea Va (by first | assumption | decide) E_x0) hZ (hw _ (own_m 216 rfl)) (hw _ (own_m 82 rfl)) (by decide) (by decide)) q4a q4b q4c (g := (mkF m 45 #[.val (.ref r0), .unset] [(.ref r0)])) rfl (by rw [hml]; rfl) (Steps.refl _) (argsL := []) (rest := []) (lenOf own_pd276 rfl) rfl (by show 2 * 0 + _ ≤ _; exact Nat.le_of_eq rfl) (hb hby own_d21_45) (fun _ _ => ⟨rfl, eh3, (by decide : 0 + 1 ≤ _), (by decide : 0 + 1 ≤ _)⟩)
  dsimp only [Pt.U, Pt.locs, Pt.cells, Pt.slots] at X4 l4 y4 z4 st4 hQ4
  subst l4 y4 z4
  obtain ⟨cp_4, kc_4, rfl, N4q, Kq4, o4_0, o4_1, o4_2, o4_3⟩ := hQ4
  have N4 := Fr.app N3 N4q
  have Z5 : n0 ≤ T4.heap.size := Nat.le_trans Z0 Kq4.1
  have K6 : Keep h0 T4.heap [] := KR.trans Kq4 all0
  have g_cp_4 : n0 ≤ cp_4 := Nat.le_trans Z0 o4_0
  have sz_cp_4 : h0.size ≤ cp_4 := Nat.le_trans KR.1 o4_0
  refine Good.back (fun _ k => st4.trans k) ?_
  have f_8 : Exa Z T4.heap x0 "com/example/liken/liken/core/Token" := Exa.keep E_x0 Kq4
  have f_9 : Sta Z T4.heap "java/util/ImmutableCollections" "EMPTY" "Ljava/lang/Object;" (.ref em) := own_staKeep S_em Kq4 all0
  obtain ⟨_, _, ⟨T7, L7, k7, n7⟩, -, X7, ⟨Lc7, hQ7, l7, y7, z7⟩, st7⟩ := Jvm.LawKit.callS X4 hx (y := (⟨"java/util/List", "of", "([Ljava/lang/Object;)Ljava/util/List;"⟩ : MethodName)) hown (mvT hZ (hw _ (own_m 239 rfl))) (mvT hZ (hw _ (own_m 240 rfl))) (mvT hZ (hw _ (own_m 118 rfl))) (mvT hZ (hw _ (own_m 241 rfl))) (by decide) (backOf (W := 0) (rm38_1 l Z a0 hw [] cp_4 kc_4 x0 em T4.heap n0 Z5 o4_2 f_8 f_9) hZ (hw _ (own_m 241 rfl)) (hw _ (own_m 118 rfl)) (by decide) (by decide)) (g := (mkF m 50 #[.val (.ref r0), .unset] [(.ref cp_4)])) rfl (by rw [hml]; rfl) (argsL := [(.ref cp_4)]) (rest := []) (lenOf own_pd492 rfl) rfl (by show 2 * 0 + _ ≤ _; exact Nat.le_of_eq rfl) (hb hby own_d21_50) (fun _ _ => ⟨rfl, rfl, (by decide : 1 + 1 ≤ _), (by decide : 1 + 2 ≤ _)⟩)
  dsimp only [Pt.U, Pt.locs, Pt.cells, Pt.slots] at X7 l7 y7 z7 st7 hQ7
  subst l7 y7 z7
  obtain ⟨li_7, rfl, N7q, Kq7, o7_0, o7_1, o7_2, o7_3⟩ := hQ7
  have N7 := Fr.app N4 N7q
  have Z10 : n0 ≤ T7.heap.size := Nat.le_trans Z5 Kq7.1
  have K11 : Keep h0 T7.heap [] := K6.trans Kq7 all0
  have g_li_7 : n0 ≤ li_7 := Nat.le_trans Z5 o7_0
  have sz_li_7 : h0.size ≤ li_7 := Nat.le_trans K6.1 o7_0
  refine Good.back st7 ?_
  show Good p e below _ (T7.setTop (mkF m 53 #[.val (.ref r0), .unset] [(.ref li_7)]))
  obtain ⟨fs12, hr12, hrun12, hended12, hW12, hsame12⟩ := X7.leave (v := some (.ref li_7)) (fun h => by rw [Bd.returns] at h; cases h)
  refine Good.done (retOut X7 hx Bd.returns rfl (Or.inr (Or.inr (Or.inr (Or.inr ⟨rfl, rfl, rfl⟩)))) (hb hby own_d21_53) hr12) hrun12 hended12 ⟨_, _, rfl, ?_, ⟨_, rfl⟩, hW12, hsame12.mono (by decide) (by decide)⟩
  show Q21_1 Z r0 ar kk mr x0 em h0 n0 _ T7.heap _
  exact ⟨li_7, rfl, N7, K11, sz_li_7, o7_1, o7_2, o7_3⟩
theorem own_pd506 : parseMethodDescriptor "(Ljava/util/Collection;)Ljava/util/List;" = some ⟨[(.object "java/util/Collection")], some (.object "java/util/List")⟩ := by decide +kernel
theorem own_d20_0 : decode jdk_40_method_48_code 0 = .ok (.aload_n 0, 1) := by decide +kernel
theorem own_d20_1 : decode jdk_40_method_48_code 1 = .ok (.invokestatic 112, 3) := by decide +kernel
theorem own_d20_4 : decode jdk_40_method_48_code 4 = .ok (.areturn, 1) := by decide +kernel
theorem own_ef_20_1 (m : MethodId) (x0 : Addr) : entryFrame m #[(.ref x0)] 1 = mkF m 0 #[.val (.ref x0)] [] := by first | (simp [entryFrame, mkF, argsToLocals, Value.category]; done) | rfl
def Q20_1 (Z : State) (r0 : Addr) (ar : Addr) (kk : ClassId) (mr : Addr) (x0 : Addr) (em : Addr) (h0 : Heap) (n0 : Nat) (v : Option Value) (h : Heap) (L : List Loc) : Prop := ∃ (li : Addr), v = some (.ref li) ∧ Fr n0 L ∧ Keep h0 h [] ∧ h0.size ≤ li ∧ Exa Z h li "java/util/ImmutableCollections$List12" ∧ Fld Z h li "java/util/ImmutableCollections$List12" "e0" "Ljava/lang/Object;" (.ref x0) ∧ Fld Z h li "java/util/ImmutableCollections$List12" "e1" "Ljava/lang/Object;" (.ref em)
set_option maxRecDepth 65536 in
set_option maxHeartbeats 40000000 in
theorem rm20_1 (l : Launch) (Z : State) (a0 : Array Value) (hw : ∀ d ∈ tables_1, d.before a0 Z = true) (ws : List Jvm.Cond) (r0 : Addr) (ar : Addr) (kk : ClassId) (mr : Addr) (x0 : Addr) (em : Addr) (h0 : Heap) (n0 : Nat) (Z0 : n0 ≤ h0.size) (E0 : Exa Z h0 r0 "java/util/ArrayList") (Fe : Fld Z h0 r0 "java/util/ArrayList" "elementData" "[Ljava/lang/Object;" (.ref ar)) (Fs : Fld Z h0 r0 "java/util/ArrayList" "size" "I" (.int (1 : Int32))) (Ea : Exa Z h0 ar "[Ljava/lang/Object;") (Va : Arv Z h0 ar kk (.object "java/lang/Object") (10 : Int32) [(.ref x0), .null, .null, .null, .null, .null, .null, .null, .null, .null] .null) (hmir : Mir Z "[Ljava/lang/Object;" mr) (E_x0 : Exa Z h0 x0 "com/example/liken/liken/core/Token") (S_em : Sta Z h0 "java/util/ImmutableCollections" "EMPTY" "Ljava/lang/Object;" (.ref em)) :
    MetFree l (⟨"java/util/List", "copyOf", "(Ljava/util/Collection;)Ljava/util/List;"⟩ : MethodName) (head1 (Jvm.Cond.code (⟨"java/util/List", "copyOf", "(Ljava/util/Collection;)Ljava/util/List;"⟩ : MethodName) jdk_40_method_48_code 1 (some (.object "java/util/List")) :: ws) ({ frames := 7, cells := 2, slots := 3, locals := 88 } : Room)) (fun a U => a = #[(.ref r0)] ∧ Z.Warmed39 U.vm ∧ U.heap = h0) (fun _ _ _ _ _ => True) (fun _ U o U' => ∃ v L, o = .returned v ∧ Q20_1 Z r0 ar kk mr x0 em h0 n0 v U'.heap L ∧ FrameEnd U o U' L ({ frames := 7, cells := 2, slots := 3, locals := 88 } : Room).cells ({ frames := 7, cells := 2, slots := 3, locals := 88 } : Room).slots) := by
  refine MetFree.of_bodySF (plainFor_of_name own_pn14) hisR ?_
  intro p e s m args below meth c s₁ Bd hml0 hP hK
  obtain ⟨rfl, hZ, hh⟩ := hP
  have hx := Bd.exec
  have hby := Bd.bytes
  have hml : c.maxLocals = 1 := hml0
  have hown : s.vm.findClass "java/util/List" = some m.cls := findClass_of_methodNamed Bd.named
  have hnm := (name_of_methodNamed Bd.named Bd.method).1
  have X0 : Stand p l e ({ frames := 7, cells := 2, slots := 3, locals := 88 } : Room) s m #[(.ref r0)] below meth c s₁ [] 0 0 := Stand.of_body Bd
  have e0 : s₁.heap = h0 := by rw [← hh, Bd.state]; rfl
  have N0 := Fr.nil n0
  have KR : Keep h0 h0 [] := Keep.refl h0 _
  show Good p e below (fun o U' => ∃ v L, o = .returned v ∧ Q20_1 Z r0 ar kk mr x0 em h0 n0 v U'.heap L ∧ FrameEnd s o U' L ({ frames := 7, cells := 2, slots := 3, locals := 88 } : Room).cells ({ frames := 7, cells := 2, slots := 3, locals := 88 } : Room).slots) _
  refine Good.back (S' := s₁.setTop (mkF m 0 #[.val (.ref r0)] [])) (fun t k => castTop (own_ef_20_1 m r0) k) ?_
  show Good p e below _ (s₁.setTop (mkF m 0 #[.val (.ref r0)] []))
  refine Good.back (fun _ k => XS.aloadN X0.here hx rfl (hb hby own_d20_0) rfl rfl k) ?_
  obtain ⟨_, _, ⟨T1, L1, k1, n1⟩, -, X1, ⟨Lc1, hQ1, l1, y1, z1⟩, st1⟩ := Jvm.LawKit.callS X0 hx (y := (⟨"java/util/ImmutableCollections", "listCopy", "(Ljava/util/Collection;)Ljava/util/List;"⟩ : MethodName)) hown (mvT hZ (hw _ (own_m 120 rfl))) (mvT hZ (hw _ (own_m 121 rfl))) (mvT hZ (hw _ (own_m 122 rfl))) (mvT hZ (hw _ (own_m 123 rfl))) (by decide) (backOf (W := 0) (rm21_1 l Z a0 hw [] r0 ar kk mr x0 em h0 n0 Z0 E0 Fe Fs Ea Va (by first | assumption | decide) E_x0 S_em) hZ (hw _ (own_m 123 rfl)) (hw _ (own_m 122 rfl)) (by decide) (by decide)) (g := (mkF m 1 #[.val (.ref r0)] [(.ref r0)])) rfl (by rw [hml]; rfl) (argsL := [(.ref r0)]) (rest := []) (lenOf own_pd506 rfl) rfl (by show 2 * 0 + _ ≤ _; exact Nat.le_of_eq rfl) (hb hby own_d20_1) (fun _ _ => ⟨rfl, e0, (by decide : 0 + 2 ≤ _), (by decide : 0 + 3 ≤ _)⟩)
  dsimp only [Pt.U, Pt.locs, Pt.cells, Pt.slots] at X1 l1 y1 z1 st1 hQ1
  subst l1 y1 z1
  obtain ⟨li_1, rfl, N1q, Kq1, o1_0, o1_1, o1_2, o1_3⟩ := hQ1
  have N1 := Fr.app N0 N1q
  have Z2 : n0 ≤ T1.heap.size := Nat.le_trans Z0 Kq1.1
  have K3 : Keep h0 T1.heap [] := KR.trans Kq1 all0
  have g_li_1 : n0 ≤ li_1 := Nat.le_trans Z0 o1_0
  have sz_li_1 : h0.size ≤ li_1 := Nat.le_trans KR.1 o1_0
  refine Good.back st1 ?_
  show Good p e below _ (T1.setTop (mkF m 4 #[.val (.ref r0)] [(.ref li_1)]))
  obtain ⟨fs4, hr4, hrun4, hended4, hW4, hsame4⟩ := X1.leave (v := some (.ref li_1)) (fun h => by rw [Bd.returns] at h; cases h)
  refine Good.done (retOut X1 hx Bd.returns rfl (Or.inr (Or.inr (Or.inr (Or.inr ⟨rfl, rfl, rfl⟩)))) (hb hby own_d20_4) hr4) hrun4 hended4 ⟨_, _, rfl, ?_, ⟨_, rfl⟩, hW4, hsame4.mono (by decide) (by decide)⟩
  show Q20_1 Z r0 ar kk mr x0 em h0 n0 _ T1.heap _
  exact ⟨li_1, rfl, N1, K3, sz_li_1, o1_1, o1_2, o1_3⟩
theorem own_pd510 : parseMethodDescriptor "()I" = some ⟨[], some .int⟩ := by decide +kernel
theorem own_d19_0 : decode prog_45_method_2_code 0 = .ok (.aload_n 0, 1) := by decide +kernel
theorem own_d19_1 : decode prog_45_method_2_code 1 = .ok (.invokestatic 20, 3) := by decide +kernel
theorem own_d19_4 : decode prog_45_method_2_code 4 = .ok (.astore_n 1, 1) := by decide +kernel
theorem own_d19_5 : decode prog_45_method_2_code 5 = .ok (.new 8, 3) := by decide +kernel
theorem own_d19_8 : decode prog_45_method_2_code 8 = .ok (.dup, 1) := by decide +kernel
theorem own_d19_9 : decode prog_45_method_2_code 9 = .ok (.aload_n 1, 1) := by decide +kernel
theorem own_d19_10 : decode prog_45_method_2_code 10 = .ok (.iconst 0, 1) := by decide +kernel
theorem own_d19_11 : decode prog_45_method_2_code 11 = .ok (.aload_n 1, 1) := by decide +kernel
theorem own_d19_12 : decode prog_45_method_2_code 12 = .ok (.invokeinterface 26 1, 5) := by decide +kernel
theorem own_d19_17 : decode prog_45_method_2_code 17 = .ok (.invokespecial 29, 3) := by decide +kernel
theorem own_d19_20 : decode prog_45_method_2_code 20 = .ok (.areturn, 1) := by decide +kernel
theorem own_ef_19_1 (m : MethodId) (x0 : Addr) : entryFrame m #[(.ref x0)] 2 = mkF m 0 #[.val (.ref x0), .unset] [] := by first | (simp [entryFrame, mkF, argsToLocals, Value.category]; done) | rfl
def Q19_1 (Z : State) (r0 : Addr) (ar : Addr) (kk : ClassId) (mr : Addr) (x0 : Addr) (em : Addr) (h0 : Heap) (n0 : Nat) (v : Option Value) (h : Heap) (L : List Loc) : Prop := ∃ (ts : Addr) (li : Addr), v = some (.ref ts) ∧ Fr n0 L ∧ Keep h0 h [] ∧ h0.size ≤ ts ∧ Exa Z h ts "com/example/liken/liken/core/TokenSlice" ∧ Fld Z h ts "com/example/liken/liken/core/TokenSlice" "all" "Ljava/util/List;" (.ref li) ∧ Fld Z h ts "com/example/liken/liken/core/TokenSlice" "from" "I" (.int (0 : Int32)) ∧ Fld Z h ts "com/example/liken/liken/core/TokenSlice" "size" "I" (.int (1 : Int32)) ∧ h0.size ≤ li ∧ Exa Z h li "java/util/ImmutableCollections$List12" ∧ Fld Z h li "java/util/ImmutableCollections$List12" "e0" "Ljava/lang/Object;" (.ref x0) ∧ Fld Z h li "java/util/ImmutableCollections$List12" "e1" "Ljava/lang/Object;" (.ref em)
set_option maxRecDepth 65536 in
set_option maxHeartbeats 40000000 in
theorem rm19_1 (l : Launch) (Z : State) (a0 : Array Value) (hw : ∀ d ∈ tables_1, d.before a0 Z = true) (ws : List Jvm.Cond) (r0 : Addr) (ar : Addr) (kk : ClassId) (mr : Addr) (x0 : Addr) (em : Addr) (h0 : Heap) (n0 : Nat) (Z0 : n0 ≤ h0.size) (E0 : Exa Z h0 r0 "java/util/ArrayList") (Fe : Fld Z h0 r0 "java/util/ArrayList" "elementData" "[Ljava/lang/Object;" (.ref ar)) (Fs : Fld Z h0 r0 "java/util/ArrayList" "size" "I" (.int (1 : Int32))) (Ea : Exa Z h0 ar "[Ljava/lang/Object;") (Va : Arv Z h0 ar kk (.object "java/lang/Object") (10 : Int32) [(.ref x0), .null, .null, .null, .null, .null, .null, .null, .null, .null] .null) (hmir : Mir Z "[Ljava/lang/Object;" mr) (E_x0 : Exa Z h0 x0 "com/example/liken/liken/core/Token") (S_em : Sta Z h0 "java/util/ImmutableCollections" "EMPTY" "Ljava/lang/Object;" (.ref em)) (E_em : Exa Z h0 em "java/lang/Object") :
    MetFree l (⟨"com/example/liken/liken/core/TokenSlice", "of", "(Ljava/util/List;)Lcom/example/liken/liken/core/TokenSlice;"⟩ : MethodName) (head1 (Jvm.Cond.code (⟨"com/example/liken/liken/core/TokenSlice", "of", "(Ljava/util/List;)Lcom/example/liken/liken/core/TokenSlice;"⟩ : MethodName) prog_45_method_2_code 2 (some (.object "com/example/liken/liken/core/TokenSlice")) :: ws) ({ frames := 8, cells := 3, slots := 7, locals := 100 } : Room)) (fun a U => a = #[(.ref r0)] ∧ Z.Warmed39 U.vm ∧ U.heap = h0) (fun _ _ _ _ _ => True) (fun _ U o U' => ∃ v L, o = .returned v ∧ Q19_1 Z r0 ar kk mr x0 em h0 n0 v U'.heap L ∧ FrameEnd U o U' L ({ frames := 8, cells := 3, slots := 7, locals := 100 } : Room).cells ({ frames := 8, cells := 3, slots := 7, locals := 100 } : Room).slots) := by
  refine MetFree.of_bodySF (plainFor_of_name own_pn12) hisR ?_
  intro p e s m args below meth c s₁ Bd hml0 hP hK
  obtain ⟨rfl, hZ, hh⟩ := hP
  have hx := Bd.exec
  have hby := Bd.bytes
  have hml : c.maxLocals = 2 := hml0
  have hown : s.vm.findClass "com/example/liken/liken/core/TokenSlice" = some m.cls := findClass_of_methodNamed Bd.named
  have hnm := (name_of_methodNamed Bd.named Bd.method).1
  have X0 : Stand p l e ({ frames := 8, cells := 3, slots := 7, locals := 100 } : Room) s m #[(.ref r0)] below meth c s₁ [] 0 0 := Stand.of_body Bd
  have e0 : s₁.heap = h0 := by rw [← hh, Bd.state]; rfl
  have N0 := Fr.nil n0
  have KR : Keep h0 h0 [] := Keep.refl h0 _
  show Good p e below (fun o U' => ∃ v L, o = .returned v ∧ Q19_1 Z r0 ar kk mr x0 em h0 n0 v U'.heap L ∧ FrameEnd s o U' L ({ frames := 8, cells := 3, slots := 7, locals := 100 } : Room).cells ({ frames := 8, cells := 3, slots := 7, locals := 100 } : Room).slots) _
  refine Good.back (S' := s₁.setTop (mkF m 0 #[.val (.ref r0), .unset] [])) (fun t k => castTop (own_ef_19_1 m r0) k) ?_
  show Good p e below _ (s₁.setTop (mkF m 0 #[.val (.ref r0), .unset] []))
  refine Good.back (fun _ k => XS.aloadN X0.here hx rfl (hb hby own_d19_0) rfl rfl k) ?_
  obtain ⟨_, _, ⟨T1, L1, k1, n1⟩, -, X1, ⟨Lc1, hQ1, l1, y1, z1⟩, st1⟩ := Jvm.LawKit.callS X0 hx (y := (⟨"java/util/List", "copyOf", "(Ljava/util/Collection;)Ljava/util/List;"⟩ : MethodName)) hown (mvT hZ (hw _ (own_m 116 rfl))) (mvT hZ (hw _ (own_m 117 rfl))) (mvT hZ (hw _ (own_m 118 rfl))) (mvT hZ (hw _ (own_m 119 rfl))) (by decide) (backOf (W := 0) (rm20_1 l Z a0 hw [] r0 ar kk mr x0 em h0 n0 Z0 E0 Fe Fs Ea Va (by first | assumption | decide) E_x0 S_em) hZ (hw _ (own_m 119 rfl)) (hw _ (own_m 118 rfl)) (by decide) (by decide)) (g := (mkF m 1 #[.val (.ref r0), .unset] [(.ref r0)])) rfl (by rw [hml]; rfl) (argsL := [(.ref r0)]) (rest := []) (lenOf own_pd506 rfl) rfl (by show 2 * 0 + _ ≤ _; exact Nat.le_of_eq rfl) (hb hby own_d19_1) (fun _ _ => ⟨rfl, e0, (by decide : 0 + 2 ≤ _), (by decide : 0 + 3 ≤ _)⟩)
  dsimp only [Pt.U, Pt.locs, Pt.cells, Pt.slots] at X1 l1 y1 z1 st1 hQ1
  subst l1 y1 z1
  obtain ⟨li_1, rfl, N1q, Kq1, o1_0, o1_1, o1_2, o1_3⟩ := hQ1
  have N1 := Fr.app N0 N1q
  have Z2 : n0 ≤ T1.heap.size := Nat.le_trans Z0 Kq1.1
  have K3 : Keep h0 T1.heap [] := KR.trans Kq1 all0
  have g_li_1 : n0 ≤ li_1 := Nat.le_trans Z0 o1_0
  have sz_li_1 : h0.size ≤ li_1 := Nat.le_trans KR.1 o1_0
  refine Good.back st1 ?_
  show Good p e below _ (T1.setTop (mkF m 4 #[.val (.ref r0), .unset] [(.ref li_1)]))
  refine Good.back (fun _ k => XS.astoreN X1.here hx rfl (hb hby own_d19_4) rfl rfl (l' := #[.val (.ref r0), .val (.ref li_1)]) rfl k) ?_
  obtain ⟨T4, h4, X4, e4, E4, A4, D4, -, st4⟩ := newO X1 hx hZ hown (hw _ (own_m 108 rfl)) (hw _ (own_m 141 rfl)) (hw _ (own_m 106 rfl)) rfl (g := (mkF m 5 #[.val (.ref r0), .val (.ref li_1)] [])) rfl (hb hby own_d19_5) (by decide) (by decide)
  obtain ⟨b4, g4⟩ : ∃ z, z = T1.heap.size := ⟨_, rfl⟩
  rw [← g4] at A4 D4 st4
  refine Good.back st4 ?_
  have g_b4 : n0 ≤ b4 := Nat.le_trans Z2 (Nat.le_of_eq g4.symm)
  have sz_b4 : h0.size ≤ b4 := Nat.le_trans K3.1 (Nat.le_of_eq g4.symm)
  have Z5 : n0 ≤ h4.size := Nat.le_trans Z2 E4.1
  have K6 : Keep h0 h4 [] := K3.ext E4
  have f_7 : Exa Z h4 b4 "com/example/liken/liken/core/TokenSlice" := A4
  have f_8 : Fld Z h4 b4 "java/util/AbstractList" "modCount" "I" (.int (0 : Int32)) := D4 (Or.inl (hw _ (own_m 159 rfl))) (ty := .int) (by decide)
  have f_9 : Fld Z h4 b4 "com/example/liken/liken/core/TokenSlice" "all" "Ljava/util/List;" .null := D4 (Or.inr (hw _ (own_m 161 rfl))) (ty := (.object "java/util/List")) (by decide)
  have f_10 : Fld Z h4 b4 "com/example/liken/liken/core/TokenSlice" "from" "I" (.int (0 : Int32)) := D4 (Or.inr (hw _ (own_m 163 rfl))) (ty := .int) (by decide)
  have f_11 : Fld Z h4 b4 "com/example/liken/liken/core/TokenSlice" "size" "I" (.int (0 : Int32)) := D4 (Or.inr (hw _ (own_m 165 rfl))) (ty := .int) (by decide)
  refine Good.back (fun _ k => XS.dup X4.here hx rfl (hb hby own_d19_8) rfl rfl k) ?_
  refine Good.back (fun _ k => XS.aloadN X4.here hx rfl (hb hby own_d19_9) rfl rfl k) ?_
  refine Good.back (fun _ k => XS.iconst X4.here hx rfl (hb hby own_d19_10) k) ?_
  refine Good.back (fun _ k => XS.aloadN X4.here hx rfl (hb hby own_d19_11) rfl rfl k) ?_
  show Good p e below _ (T4.setTop (mkF m 12 #[.val (.ref r0), .val (.ref li_1)] [(.ref li_1), (.int (0 : Int32)), (.ref li_1), (.ref b4), (.ref b4)]))
  have f_13 : Fld Z h4 li_1 "java/util/ImmutableCollections$List12" "e1" "Ljava/lang/Object;" (.ref em) := Fld.ext E4 o1_3
  have f_14 : Sta Z T1.heap "java/util/ImmutableCollections" "EMPTY" "Ljava/lang/Object;" (.ref em) := own_staKeep S_em Kq1 all0
  have f_15 : Sta Z h4 "java/util/ImmutableCollections" "EMPTY" "Ljava/lang/Object;" (.ref em) := Sta.ext E4 f_14
  have f_16 : Exa Z h4 li_1 "java/util/ImmutableCollections$List12" := Exa.ext E4 o1_1
  obtain ⟨cq12, kq12, q12a, q12b, q12c⟩ := isOf hZ e4 f_16
  obtain ⟨_, _, ⟨T12, L12, k12, n12⟩, -, X12, ⟨Lc12, hQ12, l12, y12, z12⟩, st12⟩ := X4.interfaceBack hx (xi := (⟨"java/util/List", "size", "()I"⟩ : MethodName)) (y := (⟨"java/util/ImmutableCollections$List12", "size", "()I"⟩ : MethodName)) hown (mvT hZ (hw _ (own_m 142 rfl))) (mvT hZ (hw _ (own_m 143 rfl))) (mvT hZ (hw _ (own_m 144 rfl))) (mvT hZ (hw _ (own_m 271 rfl))) (mvT hZ (hw _ (own_m 272 rfl))) (mvT hZ (hw _ (own_m 273 rfl))) (mvT hZ (hw _ (own_m 274 rfl))) (mvT hZ (hw _ (own_m 275 rfl))) (by decide) (backOf (W := 4) (rm43_1 l Z a0 hw [] li_1 em h4 n0 Z5 f_13 f_15) hZ (hw _ (own_m 276 rfl)) (hw _ (own_m 244 rfl)) (by decide) (by decide)) q12a q12b q12c (g := (mkF m 12 #[.val (.ref r0), .val (.ref li_1)] [(.ref li_1), (.int (0 : Int32)), (.ref li_1), (.ref b4), (.ref b4)])) rfl (by rw [hml]; rfl) (Steps.refl _) (argsL := []) (rest := [(.int (0 : Int32)), (.ref li_1), (.ref b4), (.ref b4)]) (lenOf own_pd510 rfl) rfl (by show 2 * 0 + _ ≤ _; exact Nat.le_of_eq rfl) (hb hby own_d19_12) (fun _ _ => ⟨rfl, e4, (by decide : 3 + 0 ≤ _), (by decide : 7 + 0 ≤ _)⟩)
  dsimp only [Pt.U, Pt.locs, Pt.cells, Pt.slots] at X12 l12 y12 z12 st12 hQ12
  subst l12 y12 z12
  obtain ⟨rfl, N12q, eh12⟩ := hQ12
  have N12 := Fr.app N1 N12q
  refine Good.back (fun _ k => st12.trans k) ?_
  obtain ⟨_, _, ⟨T17, L17, k17, n17⟩, -, X17, ⟨Lc17, hQ17, l17, y17, z17⟩, st17⟩ := X12.specialBack hx (y := (⟨"com/example/liken/liken/core/TokenSlice", "<init>", "(Ljava/util/List;II)V"⟩ : MethodName)) rfl hown (mvT hZ (hw _ (own_m 154 rfl))) (mvT hZ (hw _ (own_m 155 rfl))) (mvT hZ (hw _ (own_m 156 rfl))) (by decide) (backOf (W := 1) (rm25 l Z a0 hw [] b4 li_1 (0 : Int32) (1 : Int32)  h4 n0 Z5 f_7 g_b4 f_8 f_9 f_10 f_11) hZ (hw _ (own_m 156 rfl)) (hw _ (own_m 106 rfl)) (by decide) (by decide)) (g := (mkF m 17 #[.val (.ref r0), .val (.ref li_1)] [(.int (1 : Int32)), (.int (0 : Int32)), (.ref li_1), (.ref b4), (.ref b4)])) rfl (by rw [hml]; rfl) (Steps.refl _) (a := b4) (argsL := [(.ref li_1), (.int (0 : Int32)), (.int (1 : Int32))]) (rest := [(.ref b4)]) (lenOf own_pd351 rfl) rfl (by show 2 * 0 + _ ≤ _; exact Nat.le_of_eq rfl) (hb hby own_d19_17) (fun _ _ => ⟨rfl, eh12, (by decide : 3 + 0 ≤ _), (by decide : 7 + 0 ≤ _)⟩)
  dsimp only [Pt.U, Pt.locs, Pt.cells, Pt.slots] at X17 l17 y17 z17 st17 hQ17
  subst l17 y17 z17
  obtain ⟨rfl, N17q, Kq17, o17_0, o17_1, o17_2⟩ := hQ17
  have N17 := Fr.app N12 N17q
  have Z18 : n0 ≤ T17.heap.size := Nat.le_trans Z5 Kq17.1
  have K19 : Keep h0 T17.heap [] := K6.trans Kq17 (allS (Or.inr sz_b4) all0)
  refine Good.back (fun _ k => st17.trans k) ?_
  show Good p e below _ (T17.setTop (mkF m 20 #[.val (.ref r0), .val (.ref li_1)] [(.ref b4)]))
  obtain ⟨fs20, hr20, hrun20, hended20, hW20, hsame20⟩ := X17.leave (v := some (.ref b4)) (fun h => by rw [Bd.returns] at h; cases h)
  refine Good.done (retOut X17 hx Bd.returns rfl (Or.inr (Or.inr (Or.inr (Or.inr ⟨rfl, rfl, rfl⟩)))) (hb hby own_d19_20) hr20) hrun20 hended20 ⟨_, _, rfl, ?_, ⟨_, rfl⟩, hW20, hsame20.mono (by decide) (by decide)⟩
  show Q19_1 Z r0 ar kk mr x0 em h0 n0 _ T17.heap _
  have f_21 : Exa Z T17.heap b4 "com/example/liken/liken/core/TokenSlice" := Exa.keep f_7 Kq17
  have f_22 : Exa Z T17.heap li_1 "java/util/ImmutableCollections$List12" := Exa.keep f_16 Kq17
  have f_23 : Fld Z h4 li_1 "java/util/ImmutableCollections$List12" "e0" "Ljava/lang/Object;" (.ref x0) := Fld.ext E4 o1_2
  have ne_li_1_b4_25 : li_1 ≠ b4 := Nat.ne_of_lt (Nat.lt_of_lt_of_le o1_3.lt (Nat.le_of_eq g4.symm))
  have f_24 : Fld Z T17.heap li_1 "java/util/ImmutableCollections$List12" "e0" "Ljava/lang/Object;" (.ref x0) := Fld.keep f_23 Kq17 (ninS ne_li_1_b4_25 nin0)
  have f_26 : Fld Z T17.heap li_1 "java/util/ImmutableCollections$List12" "e1" "Ljava/lang/Object;" (.ref em) := Fld.keep f_13 Kq17 (ninS ne_li_1_b4_25 nin0)
  exact ⟨b4, li_1, rfl, N17, K19, sz_b4, f_21, o17_0, o17_1, o17_2, sz_li_1, f_22, f_24, f_26⟩
theorem own_ef_37_2 (m : MethodId) (x0 : Int32) (x1 : Int32) : entryFrame m #[(.int x0), (.int x1)] 2 = mkF m 0 #[.val (.int x0), .val (.int x1)] [] := by first | (simp [entryFrame, mkF, argsToLocals, Value.category]; done) | rfl
def Q37_2 (Z : State)  (h0 : Heap) (n0 : Nat) (v : Option Value) (h : Heap) (L : List Loc) : Prop := v = some (.int (2 : Int32)) ∧ Fr n0 L ∧ h = h0
set_option maxRecDepth 65536 in
set_option maxHeartbeats 40000000 in
theorem rm37_2 (l : Launch) (Z : State) (a0 : Array Value) (hw : ∀ d ∈ tables_1, d.before a0 Z = true) (ws : List Jvm.Cond)  (h0 : Heap) (n0 : Nat) (Z0 : n0 ≤ h0.size)  :
    MetFree l (⟨"java/lang/Math", "min", "(II)I"⟩ : MethodName) (head1 (Jvm.Cond.code (⟨"java/lang/Math", "min", "(II)I"⟩ : MethodName) jdk_29_method_69_code 2 (some .int) :: ws) ({ frames := 0, cells := 0, slots := 0, locals := 0 } : Room)) (fun a U => a = #[(.int (10 : Int32)), (.int (2 : Int32))] ∧ Z.Warmed39 U.vm ∧ U.heap = h0) (fun _ _ _ _ _ => True) (fun _ U o U' => ∃ v L, o = .returned v ∧ Q37_2 Z  h0 n0 v U'.heap L ∧ FrameEnd U o U' L ({ frames := 0, cells := 0, slots := 0, locals := 0 } : Room).cells ({ frames := 0, cells := 0, slots := 0, locals := 0 } : Room).slots) := by
  refine MetFree.of_bodySF (Jvm.Free.JP.mathPlain rfl (by decide +kernel)) hisR ?_
  intro p e s m args below meth c s₁ Bd hml0 hP hK
  obtain ⟨rfl, hZ, hh⟩ := hP
  have hx := Bd.exec
  have hby := Bd.bytes
  have hml : c.maxLocals = 2 := hml0
  have hown : s.vm.findClass "java/lang/Math" = some m.cls := findClass_of_methodNamed Bd.named
  have hnm := (name_of_methodNamed Bd.named Bd.method).1
  have X0 : Stand p l e ({ frames := 0, cells := 0, slots := 0, locals := 0 } : Room) s m #[(.int (10 : Int32)), (.int (2 : Int32))] below meth c s₁ [] 0 0 := Stand.of_body Bd
  have e0 : s₁.heap = h0 := by rw [← hh, Bd.state]; rfl
  have N0 := Fr.nil n0
  show Good p e below (fun o U' => ∃ v L, o = .returned v ∧ Q37_2 Z  h0 n0 v U'.heap L ∧ FrameEnd s o U' L ({ frames := 0, cells := 0, slots := 0, locals := 0 } : Room).cells ({ frames := 0, cells := 0, slots := 0, locals := 0 } : Room).slots) _
  refine Good.back (S' := s₁.setTop (mkF m 0 #[.val (.int (10 : Int32)), .val (.int (2 : Int32))] [])) (fun t k => castTop (own_ef_37_2 m (10 : Int32) (2 : Int32)) k) ?_
  show Good p e below _ (s₁.setTop (mkF m 0 #[.val (.int (10 : Int32)), .val (.int (2 : Int32))] []))
  refine Good.back (fun _ k => XS.iloadN X0.here hx rfl (hb hby own_d37_0) rfl k) ?_
  refine Good.back (fun _ k => XS.iloadN X0.here hx rfl (hb hby own_d37_1) rfl k) ?_
  show Good p e below _ (s₁.setTop (mkF m 2 #[.val (.int (10 : Int32)), .val (.int (2 : Int32))] [(.int (2 : Int32)), (.int (10 : Int32))]))
  refine Good.back (fun _ k => XS.icmpYes X0.here hx rfl (pc0 := 2) (pc' := 9) rfl (hb hby own_d37_2) rfl (tlt (by decide : ((2 : Int32) < (10 : Int32)))).2.2.1 (by decide) (by decide) k) ?_
  show Good p e below _ (s₁.setTop (mkF m 9 #[.val (.int (10 : Int32)), .val (.int (2 : Int32))] []))
  refine Good.back (fun _ k => XS.iloadN X0.here hx rfl (hb hby own_d37_9) rfl k) ?_
  show Good p e below _ (s₁.setTop (mkF m 10 #[.val (.int (10 : Int32)), .val (.int (2 : Int32))] [(.int (2 : Int32))]))
  obtain ⟨fs1, hr1, hrun1, hended1, hW1, hsame1⟩ := X0.leave (v := some (.int (2 : Int32))) (fun h => by rw [Bd.returns] at h; cases h)
  refine Good.done (retI X0 hx Bd.returns (hb hby own_d37_10) hr1) hrun1 hended1 ⟨_, _, rfl, ?_, ⟨_, rfl⟩, hW1, hsame1.mono (by decide) (by decide)⟩
  show Q37_2 Z  h0 n0 _ s₁.heap _
  rw [e0]
  exact ⟨rfl, N0, rfl⟩
theorem own_ef_36_2 (m : MethodId) (x0 : Addr) (x1 : Int32) (x2 : Addr) : entryFrame m #[(.ref x0), (.int x1), (.ref x2)] 4 = mkF m 0 #[.val (.ref x0), .val (.int x1), .val (.ref x2), .unset] [] := by first | (simp [entryFrame, mkF, argsToLocals, Value.category]; done) | rfl
def Q36_2 (Z : State) (r0 : Addr) (mr : Addr) (kk : ClassId) (x0 : Addr) (x1 : Addr) (h0 : Heap) (n0 : Nat) (v : Option Value) (h : Heap) (L : List Loc) : Prop := ∃ (cp : Addr) (kc : ClassId), v = some (.ref cp) ∧ Fr n0 L ∧ Keep h0 h [] ∧ h0.size ≤ cp ∧ Exa Z h cp "[Ljava/lang/Object;" ∧ Arv Z h cp kc (.object "java/lang/Object") (2 : Int32) [(.ref x0), (.ref x1)] .null ∧ Ovr Z kc "java/lang/Object"
set_option maxRecDepth 65536 in
set_option maxHeartbeats 40000000 in
theorem rm36_2 (l : Launch) (Z : State) (a0 : Array Value) (hw : ∀ d ∈ tables_1, d.before a0 Z = true) (ws : List Jvm.Cond) (r0 : Addr) (mr : Addr) (kk : ClassId) (x0 : Addr) (x1 : Addr) (h0 : Heap) (n0 : Nat) (Z0 : n0 ≤ h0.size) (Va : Arv Z h0 r0 kk (.object "java/lang/Object") (10 : Int32) [(.ref x0), (.ref x1), .null, .null, .null, .null, .null, .null, .null, .null] .null) (hmir : Mir Z "[Ljava/lang/Object;" mr) (E_x0 : Exa Z h0 x0 "com/example/liken/liken/core/Token") (E_x1 : Exa Z h0 x1 "com/example/liken/liken/core/Token") :
    MetFree l (⟨"java/util/Arrays", "copyOf", "([Ljava/lang/Object;ILjava/lang/Class;)[Ljava/lang/Object;"⟩ : MethodName) (head1 (Jvm.Cond.code (⟨"java/util/Arrays", "copyOf", "([Ljava/lang/Object;ILjava/lang/Class;)[Ljava/lang/Object;"⟩ : MethodName) jdk_65_method_120_code 4 (some (.array (.object "java/lang/Object"))) :: ws) ({ frames := 1, cells := 1, slots := 2, locals := 18 } : Room)) (fun a U => a = #[(.ref r0), (.int (2 : Int32)), (.ref mr)] ∧ Z.Warmed39 U.vm ∧ U.heap = h0) (fun _ _ _ _ _ => True) (fun _ U o U' => ∃ v L, o = .returned v ∧ Q36_2 Z r0 mr kk x0 x1 h0 n0 v U'.heap L ∧ FrameEnd U o U' L ({ frames := 1, cells := 1, slots := 2, locals := 18 } : Room).cells ({ frames := 1, cells := 1, slots := 2, locals := 18 } : Room).slots) := by
  refine MetFree.of_bodySF (plainFor_of_name own_pn17) hisR ?_
  intro p e s m args below meth c s₁ Bd hml0 hP hK
  obtain ⟨rfl, hZ, hh⟩ := hP
  have hx := Bd.exec
  have hby := Bd.bytes
  have hml : c.maxLocals = 4 := hml0
  have hown : s.vm.findClass "java/util/Arrays" = some m.cls := findClass_of_methodNamed Bd.named
  have hnm := (name_of_methodNamed Bd.named Bd.method).1
  have X0 : Stand p l e ({ frames := 1, cells := 1, slots := 2, locals := 18 } : Room) s m #[(.ref r0), (.int (2 : Int32)), (.ref mr)] below meth c s₁ [] 0 0 := Stand.of_body Bd
  have e0 : s₁.heap = h0 := by rw [← hh, Bd.state]; rfl
  have N0 := Fr.nil n0
  have KR : Keep h0 h0 [] := Keep.refl h0 _
  show Good p e below (fun o U' => ∃ v L, o = .returned v ∧ Q36_2 Z r0 mr kk x0 x1 h0 n0 v U'.heap L ∧ FrameEnd s o U' L ({ frames := 1, cells := 1, slots := 2, locals := 18 } : Room).cells ({ frames := 1, cells := 1, slots := 2, locals := 18 } : Room).slots) _
  refine Good.back (S' := s₁.setTop (mkF m 0 #[.val (.ref r0), .val (.int (2 : Int32)), .val (.ref mr), .unset] [])) (fun t k => castTop (own_ef_36_2 m r0 (2 : Int32) mr) k) ?_
  show Good p e below _ (s₁.setTop (mkF m 0 #[.val (.ref r0), .val (.int (2 : Int32)), .val (.ref mr), .unset] []))
  refine Good.back (fun _ k => XS.aloadN X0.here hx rfl (hb hby own_d36_0) rfl rfl k) ?_
  show Good p e below _ (s₁.setTop (mkF m 1 #[.val (.ref r0), .val (.int (2 : Int32)), .val (.ref mr), .unset] [(.ref mr)]))
  obtain ⟨T1, X1, e1, st1⟩ := own_ldcMir X0 hx hZ hown (hw _ (own_m 230 rfl)) e0 hmir (g := (mkF m 1 #[.val (.ref r0), .val (.int (2 : Int32)), .val (.ref mr), .unset] [(.ref mr)])) rfl (hb hby own_d36_1)
  refine Good.back st1 ?_
  show Good p e below _ (T1.setTop (mkF m 3 #[.val (.ref r0), .val (.int (2 : Int32)), .val (.ref mr), .unset] [(.ref mr), (.ref mr)]))
  refine Good.back (fun _ k => Jvm.RoadKit.acmp (g := (mkF m 3 #[.val (.ref r0), .val (.int (2 : Int32)), .val (.ref mr), .unset] [(.ref mr), (.ref mr)])) X1 hx rfl rfl rfl (pc0 := 3) (pc' := 6) (same := true) rfl (hb hby own_d36_3) rfl (decide_eq_true rfl) (by decide) (by decide) k) ?_
  show Good p e below _ (T1.setTop (mkF m 6 #[.val (.ref r0), .val (.int (2 : Int32)), .val (.ref mr), .unset] []))
  refine Good.back (fun _ k => XS.iloadN X1.here hx rfl (hb hby own_d36_6) rfl k) ?_
  obtain ⟨T2, h2, k2, X2, e2, E2, A2, B2, O2, st2⟩ := newRE X1 hx hZ hown (hw _ (own_m 231 rfl)) (hw _ (own_m 207 rfl)) e1 (g := (mkF m 7 #[.val (.ref r0), .val (.int (2 : Int32)), .val (.ref mr), .unset] [(.int (2 : Int32))])) rfl (hb hby own_d36_7) rfl (by decide) (cap := 2) (by decide) (by decide) (by decide) (by decide) (ad := "[Ljava/lang/Object;") (by decide +kernel)
  obtain ⟨b2, g2⟩ : ∃ z, z = h0.size := ⟨_, rfl⟩
  rw [← g2] at A2 B2 st2
  refine Good.back st2 ?_
  have g_b2 : n0 ≤ b2 := Nat.le_trans Z0 (Nat.le_of_eq g2.symm)
  have sz_b2 : h0.size ≤ b2 := Nat.le_trans KR.1 (Nat.le_of_eq g2.symm)
  have Z3 : n0 ≤ h2.size := Nat.le_trans Z0 E2.1
  have K4 : Keep h0 h2 [] := KR.ext E2
  have f_5 : Exa Z h2 b2 "[Ljava/lang/Object;" := B2
  have f_6 : Arv Z h2 b2 k2 (.object "java/lang/Object") (2 : Int32) [.null, .null] .null := (Arv.new A2 (by decide)).pad (pad_rep [] .null 2)
  show Good p e below _ (T2.setTop (mkF m 10 #[.val (.ref r0), .val (.int (2 : Int32)), .val (.ref mr), .unset] [(.ref b2)]))
  refine Good.back (fun _ k => XS.goto X2.here hx rfl (pc0 := 10) (pc' := 24) rfl (hb hby own_d36_10) (by decide) (by decide) k) ?_
  show Good p e below _ (T2.setTop (mkF m 24 #[.val (.ref r0), .val (.int (2 : Int32)), .val (.ref mr), .unset] [(.ref b2)]))
  refine Good.back (fun _ k => XS.astoreN X2.here hx rfl (hb hby own_d36_24) rfl rfl (l' := #[.val (.ref r0), .val (.int (2 : Int32)), .val (.ref mr), .val (.ref b2)]) rfl k) ?_
  refine Good.back (fun _ k => XS.aloadN X2.here hx rfl (hb hby own_d36_25) rfl rfl k) ?_
  refine Good.back (fun _ k => XS.iconst X2.here hx rfl (hb hby own_d36_26) k) ?_
  refine Good.back (fun _ k => XS.aloadN X2.here hx rfl (hb hby own_d36_27) rfl rfl k) ?_
  refine Good.back (fun _ k => XS.iconst X2.here hx rfl (hb hby own_d36_28) k) ?_
  show Good p e below _ (T2.setTop (mkF m 29 #[.val (.ref r0), .val (.int (2 : Int32)), .val (.ref mr), .val (.ref b2)] [(.int (0 : Int32)), (.ref b2), (.int (0 : Int32)), (.ref r0)]))
  refine Good.back (fun _ k => XS.aloadN X2.here hx rfl (hb hby own_d36_29) rfl rfl k) ?_
  have f_7 : Arv Z h2 r0 kk (.object "java/lang/Object") (10 : Int32) [(.ref x0), (.ref x1), .null, .null, .null, .null, .null, .null, .null, .null] .null := Arv.ext Va E2
  have fc8 := f_7
  obtain ⟨cl8, Ar8, qk8, S8, N8', H8, G8⟩ := fc8
  refine Good.back (X2.arraylength hx (by rw [e2]; exact Ar8.1) (State.isArrayOf_alike hZ.alike Ar8.2.1) (g := (mkF m 30 #[.val (.ref r0), .val (.int (2 : Int32)), .val (.ref mr), .val (.ref b2)] [(.ref r0), (.int (0 : Int32)), (.ref b2), (.int (0 : Int32)), (.ref r0)])) rfl rfl (hb hby own_d36_30)) ?_
  rw [len_of S8 N8']
  refine Good.back (fun _ k => XS.iloadN X2.here hx rfl (hb hby own_d36_31) rfl k) ?_
  obtain ⟨_, _, ⟨T9, L9, k9, n9⟩, -, X9, ⟨Lc9, hQ9, l9, y9, z9⟩, st9⟩ := Jvm.LawKit.callS X2 hx (y := (⟨"java/lang/Math", "min", "(II)I"⟩ : MethodName)) hown (mvT hZ (hw _ (own_m 232 rfl))) (mvT hZ (hw _ (own_m 233 rfl))) (mvT hZ (hw _ (own_m 204 rfl))) (mvT hZ (hw _ (own_m 234 rfl))) (by decide) (backOf (W := 4) (rm37_2 l Z a0 hw []   h2 n0 Z3 ) hZ (hw _ (own_m 234 rfl)) (hw _ (own_m 204 rfl)) (by decide) (by decide)) (g := (mkF m 32 #[.val (.ref r0), .val (.int (2 : Int32)), .val (.ref mr), .val (.ref b2)] [(.int (2 : Int32)), (.int (10 : Int32)), (.int (0 : Int32)), (.ref b2), (.int (0 : Int32)), (.ref r0)])) rfl (by rw [hml]; rfl) (argsL := [(.int (10 : Int32)), (.int (2 : Int32))]) (rest := [(.int (0 : Int32)), (.ref b2), (.int (0 : Int32)), (.ref r0)]) (lenOf own_pd249 rfl) rfl (by show 2 * 0 + _ ≤ _; exact Nat.le_of_eq rfl) (hb hby own_d36_32) (fun _ _ => ⟨rfl, e2, (by decide : 1 + 0 ≤ _), (by decide : 2 + 0 ≤ _)⟩)
  dsimp only [Pt.U, Pt.locs, Pt.cells, Pt.slots] at X9 l9 y9 z9 st9 hQ9
  subst l9 y9 z9
  obtain ⟨rfl, N9q, eh9⟩ := hQ9
  have N9 := Fr.app N0 N9q
  refine Good.back st9 ?_
  have fc10 := f_6
  obtain ⟨cl10, Ar10, qk10, S10, N10', H10, G10⟩ := fc10
  have f_10 : Exa Z h2 x1 "com/example/liken/liken/core/Token" := Exa.ext E2 E_x1
  have f_11 : Exa Z h2 x0 "com/example/liken/liken/core/Token" := Exa.ext E2 E_x0
  obtain ⟨T12, h12, L12, X12, e12, N12, Kq12, A12, st12⟩ := cpA X9 hx hZ hown (hw _ (own_m 235 rfl)) (hw _ (own_m 238 rfl)) (hw _ (own_m 236 rfl)) (hw _ (own_m 237 rfl)) eh9 f_7 f_6 (us := [(.ref x0), (.ref x1)]) (Or.inr ⟨rfl, rfl, ⟨Sto.ofV Ar10 qk10 O2 (Ins.of_exa f_11 (hw _ (own_m 208 rfl))), ⟨Sto.ofV Ar10 qk10 O2 (Ins.of_exa f_10 (hw _ (own_m 208 rfl))), trivial⟩⟩⟩) (by decide) (by decide) (by decide) (by decide) (by decide) rfl (by decide) N9 g_b2 (g := (mkF m 35 #[.val (.ref r0), .val (.int (2 : Int32)), .val (.ref mr), .val (.ref b2)] [(.int (2 : Int32)), (.int (0 : Int32)), (.ref b2), (.int (0 : Int32)), (.ref r0)])) rfl (by rw [hml]; rfl) rfl (hb hby own_d36_35) (by decide) (W := 0) (by show 2 * 0 + _ ≤ _; exact Nat.le_of_eq rfl) (by decide)
  refine Good.back st12 ?_
  have Z13 : n0 ≤ h12.size := Nat.le_trans Z3 Kq12.1
  have K14 : Keep h0 h12 [] := K4.trans Kq12 (allS (Or.inr sz_b2) all0)
  have f_15 : Arv Z h12 b2 k2 (.object "java/lang/Object") (2 : Int32) [(.ref x0), (.ref x1)] .null := A12
  refine Good.back (fun _ k => XS.aloadN X12.here hx rfl (hb hby own_d36_38) rfl rfl k) ?_
  show Good p e below _ (T12.setTop (mkF m 39 #[.val (.ref r0), .val (.int (2 : Int32)), .val (.ref mr), .val (.ref b2)] [(.ref b2)]))
  obtain ⟨fs16, hr16, hrun16, hended16, hW16, hsame16⟩ := X12.leave (v := some (.ref b2)) (fun h => by rw [Bd.returns] at h; cases h)
  refine Good.done (retOut X12 hx Bd.returns rfl (Or.inr (Or.inr (Or.inr (Or.inr ⟨rfl, rfl, rfl⟩)))) (hb hby own_d36_39) hr16) hrun16 hended16 ⟨_, _, rfl, ?_, ⟨_, rfl⟩, hW16, hsame16.mono (by decide) (by decide)⟩
  show Q36_2 Z r0 mr kk x0 x1 h0 n0 _ T12.heap _
  rw [e12]
  have f_17 : Exa Z h12 b2 "[Ljava/lang/Object;" := Exa.keep f_5 Kq12
  exact ⟨b2, k2, rfl, N12, K14, sz_b2, f_17, f_15, O2⟩
theorem own_ef_35_2 (m : MethodId) (x0 : Addr) (x1 : Int32) : entryFrame m #[(.ref x0), (.int x1)] 2 = mkF m 0 #[.val (.ref x0), .val (.int x1)] [] := by first | (simp [entryFrame, mkF, argsToLocals, Value.category]; done) | rfl
def Q35_2 (Z : State) (r0 : Addr) (kk : ClassId) (mr : Addr) (x0 : Addr) (x1 : Addr) (h0 : Heap) (n0 : Nat) (v : Option Value) (h : Heap) (L : List Loc) : Prop := ∃ (cp : Addr) (kc : ClassId), v = some (.ref cp) ∧ Fr n0 L ∧ Keep h0 h [] ∧ h0.size ≤ cp ∧ Exa Z h cp "[Ljava/lang/Object;" ∧ Arv Z h cp kc (.object "java/lang/Object") (2 : Int32) [(.ref x0), (.ref x1)] .null ∧ Ovr Z kc "java/lang/Object"
set_option maxRecDepth 65536 in
set_option maxHeartbeats 40000000 in
theorem rm35_2 (l : Launch) (Z : State) (a0 : Array Value) (hw : ∀ d ∈ tables_1, d.before a0 Z = true) (ws : List Jvm.Cond) (r0 : Addr) (kk : ClassId) (mr : Addr) (x0 : Addr) (x1 : Addr) (h0 : Heap) (n0 : Nat) (Z0 : n0 ≤ h0.size) (E0 : Exa Z h0 r0 "[Ljava/lang/Object;") (Va : Arv Z h0 r0 kk (.object "java/lang/Object") (10 : Int32) [(.ref x0), (.ref x1), .null, .null, .null, .null, .null, .null, .null, .null] .null) (hmir : Mir Z "[Ljava/lang/Object;" mr) (E_x0 : Exa Z h0 x0 "com/example/liken/liken/core/Token") (E_x1 : Exa Z h0 x1 "com/example/liken/liken/core/Token") :
    MetFree l (⟨"java/util/Arrays", "copyOf", "([Ljava/lang/Object;I)[Ljava/lang/Object;"⟩ : MethodName) (head1 (Jvm.Cond.code (⟨"java/util/Arrays", "copyOf", "([Ljava/lang/Object;I)[Ljava/lang/Object;"⟩ : MethodName) jdk_65_method_119_code 2 (some (.array (.object "java/lang/Object"))) :: ws) ({ frames := 2, cells := 1, slots := 2, locals := 33 } : Room)) (fun a U => a = #[(.ref r0), (.int (2 : Int32))] ∧ Z.Warmed39 U.vm ∧ U.heap = h0) (fun _ _ _ _ _ => True) (fun _ U o U' => ∃ v L, o = .returned v ∧ Q35_2 Z r0 kk mr x0 x1 h0 n0 v U'.heap L ∧ FrameEnd U o U' L ({ frames := 2, cells := 1, slots := 2, locals := 33 } : Room).cells ({ frames := 2, cells := 1, slots := 2, locals := 33 } : Room).slots) := by
  refine MetFree.of_bodySF (plainFor_of_name own_pn17) hisR ?_
  intro p e s m args below meth c s₁ Bd hml0 hP hK
  obtain ⟨rfl, hZ, hh⟩ := hP
  have hx := Bd.exec
  have hby := Bd.bytes
  have hml : c.maxLocals = 2 := hml0
  have hown : s.vm.findClass "java/util/Arrays" = some m.cls := findClass_of_methodNamed Bd.named
  have hnm := (name_of_methodNamed Bd.named Bd.method).1
  have X0 : Stand p l e ({ frames := 2, cells := 1, slots := 2, locals := 33 } : Room) s m #[(.ref r0), (.int (2 : Int32))] below meth c s₁ [] 0 0 := Stand.of_body Bd
  have e0 : s₁.heap = h0 := by rw [← hh, Bd.state]; rfl
  have N0 := Fr.nil n0
  have KR : Keep h0 h0 [] := Keep.refl h0 _
  show Good p e below (fun o U' => ∃ v L, o = .returned v ∧ Q35_2 Z r0 kk mr x0 x1 h0 n0 v U'.heap L ∧ FrameEnd s o U' L ({ frames := 2, cells := 1, slots := 2, locals := 33 } : Room).cells ({ frames := 2, cells := 1, slots := 2, locals := 33 } : Room).slots) _
  refine Good.back (S' := s₁.setTop (mkF m 0 #[.val (.ref r0), .val (.int (2 : Int32))] [])) (fun t k => castTop (own_ef_35_2 m r0 (2 : Int32)) k) ?_
  show Good p e below _ (s₁.setTop (mkF m 0 #[.val (.ref r0), .val (.int (2 : Int32))] []))
  refine Good.back (fun _ k => XS.aloadN X0.here hx rfl (hb hby own_d35_0) rfl rfl k) ?_
  refine Good.back (fun _ k => XS.iloadN X0.here hx rfl (hb hby own_d35_1) rfl k) ?_
  refine Good.back (fun _ k => XS.aloadN X0.here hx rfl (hb hby own_d35_2) rfl rfl k) ?_
  obtain ⟨T1, X1, e1, st1⟩ := gcls X0 hx hZ hown (hw _ (own_m 221 rfl)) (hw _ (own_m 222 rfl)) (hw _ (own_m 112 rfl)) (hw _ (own_m 224 rfl)) (hw _ (own_m 223 rfl)) (hw _ (own_m 225 rfl)) e0 E0 hmir (g := (mkF m 3 #[.val (.ref r0), .val (.int (2 : Int32))] [(.ref r0), (.int (2 : Int32)), (.ref r0)])) rfl (by rw [hml]; rfl) rfl (hb hby own_d35_3) (by decide) (W := 2) (by show 2 * 0 + _ ≤ _; exact Nat.le_of_eq rfl) (by decide)
  refine Good.back st1 ?_
  obtain ⟨_, _, ⟨T2, L2, k2, n2⟩, -, X2, ⟨Lc2, hQ2, l2, y2, z2⟩, st2⟩ := Jvm.LawKit.callS X1 hx (y := (⟨"java/util/Arrays", "copyOf", "([Ljava/lang/Object;ILjava/lang/Class;)[Ljava/lang/Object;"⟩ : MethodName)) hown (mvT hZ (hw _ (own_m 227 rfl))) (mvT hZ (hw _ (own_m 228 rfl))) (mvT hZ (hw _ (own_m 219 rfl))) (mvT hZ (hw _ (own_m 229 rfl))) (by decide) (backOf (W := 0) (rm36_2 l Z a0 hw [] r0 mr kk x0 x1 h0 n0 Z0 Va (by first | assumption | decide) E_x0 E_x1) hZ (hw _ (own_m 229 rfl)) (hw _ (own_m 219 rfl)) (by decide) (by decide)) (g := (mkF m 6 #[.val (.ref r0), .val (.int (2 : Int32))] [(.ref mr), (.int (2 : Int32)), (.ref r0)])) rfl (by rw [hml]; rfl) (argsL := [(.ref r0), (.int (2 : Int32)), (.ref mr)]) (rest := []) (lenOf own_pd466 rfl) rfl (by show 2 * 0 + _ ≤ _; exact Nat.le_of_eq rfl) (hb hby own_d35_6) (fun _ _ => ⟨rfl, e1, (by decide : 0 + 1 ≤ _), (by decide : 0 + 2 ≤ _)⟩)
  dsimp only [Pt.U, Pt.locs, Pt.cells, Pt.slots] at X2 l2 y2 z2 st2 hQ2
  subst l2 y2 z2
  obtain ⟨cp_2, kc_2, rfl, N2q, Kq2, o2_0, o2_1, o2_2, o2_3⟩ := hQ2
  have N2 := Fr.app N0 N2q
  have Z3 : n0 ≤ T2.heap.size := Nat.le_trans Z0 Kq2.1
  have K4 : Keep h0 T2.heap [] := KR.trans Kq2 all0
  have g_cp_2 : n0 ≤ cp_2 := Nat.le_trans Z0 o2_0
  have sz_cp_2 : h0.size ≤ cp_2 := Nat.le_trans KR.1 o2_0
  refine Good.back st2 ?_
  show Good p e below _ (T2.setTop (mkF m 9 #[.val (.ref r0), .val (.int (2 : Int32))] [(.ref cp_2)]))
  obtain ⟨fs5, hr5, hrun5, hended5, hW5, hsame5⟩ := X2.leave (v := some (.ref cp_2)) (fun h => by rw [Bd.returns] at h; cases h)
  refine Good.done (retOut X2 hx Bd.returns rfl (Or.inr (Or.inr (Or.inr (Or.inr ⟨rfl, rfl, rfl⟩)))) (hb hby own_d35_9) hr5) hrun5 hended5 ⟨_, _, rfl, ?_, ⟨_, rfl⟩, hW5, hsame5.mono (by decide) (by decide)⟩
  show Q35_2 Z r0 kk mr x0 x1 h0 n0 _ T2.heap _
  exact ⟨cp_2, kc_2, rfl, N2, K4, sz_cp_2, o2_1, o2_2, o2_3⟩
theorem own_ef_34_2 (m : MethodId) (x0 : Addr) : entryFrame m #[(.ref x0)] 1 = mkF m 0 #[.val (.ref x0)] [] := by first | (simp [entryFrame, mkF, argsToLocals, Value.category]; done) | rfl
def Q34_2 (Z : State) (r0 : Addr) (ar : Addr) (kk : ClassId) (mr : Addr) (x0 : Addr) (x1 : Addr) (h0 : Heap) (n0 : Nat) (v : Option Value) (h : Heap) (L : List Loc) : Prop := ∃ (cp : Addr) (kc : ClassId), v = some (.ref cp) ∧ Fr n0 L ∧ Keep h0 h [] ∧ h0.size ≤ cp ∧ Exa Z h cp "[Ljava/lang/Object;" ∧ Arv Z h cp kc (.object "java/lang/Object") (2 : Int32) [(.ref x0), (.ref x1)] .null ∧ Ovr Z kc "java/lang/Object"
set_option maxRecDepth 65536 in
set_option maxHeartbeats 40000000 in
theorem rm34_2 (l : Launch) (Z : State) (a0 : Array Value) (hw : ∀ d ∈ tables_1, d.before a0 Z = true) (ws : List Jvm.Cond) (r0 : Addr) (ar : Addr) (kk : ClassId) (mr : Addr) (x0 : Addr) (x1 : Addr) (h0 : Heap) (n0 : Nat) (Z0 : n0 ≤ h0.size) (Fe : Fld Z h0 r0 "java/util/ArrayList" "elementData" "[Ljava/lang/Object;" (.ref ar)) (Fs : Fld Z h0 r0 "java/util/ArrayList" "size" "I" (.int (2 : Int32))) (Ea : Exa Z h0 ar "[Ljava/lang/Object;") (Va : Arv Z h0 ar kk (.object "java/lang/Object") (10 : Int32) [(.ref x0), (.ref x1), .null, .null, .null, .null, .null, .null, .null, .null] .null) (hmir : Mir Z "[Ljava/lang/Object;" mr) (E_x0 : Exa Z h0 x0 "com/example/liken/liken/core/Token") (E_x1 : Exa Z h0 x1 "com/example/liken/liken/core/Token") :
    MetFree l (⟨"java/util/ArrayList", "toArray", "()[Ljava/lang/Object;"⟩ : MethodName) (head1 (Jvm.Cond.code (⟨"java/util/ArrayList", "toArray", "()[Ljava/lang/Object;"⟩ : MethodName) jdk_38_method_16_code 1 (some (.array (.object "java/lang/Object"))) :: ws) ({ frames := 3, cells := 1, slots := 2, locals := 46 } : Room)) (fun a U => a = #[(.ref r0)] ∧ Z.Warmed39 U.vm ∧ U.heap = h0) (fun _ _ _ _ _ => True) (fun _ U o U' => ∃ v L, o = .returned v ∧ Q34_2 Z r0 ar kk mr x0 x1 h0 n0 v U'.heap L ∧ FrameEnd U o U' L ({ frames := 3, cells := 1, slots := 2, locals := 46 } : Room).cells ({ frames := 3, cells := 1, slots := 2, locals := 46 } : Room).slots) := by
  refine MetFree.of_bodySF (plainFor_of_name own_pn11) hisR ?_
  intro p e s m args below meth c s₁ Bd hml0 hP hK
  obtain ⟨rfl, hZ, hh⟩ := hP
  have hx := Bd.exec
  have hby := Bd.bytes
  have hml : c.maxLocals = 1 := hml0
  have hown : s.vm.findClass "java/util/ArrayList" = some m.cls := findClass_of_methodNamed Bd.named
  have hnm := (name_of_methodNamed Bd.named Bd.method).1
  have X0 : Stand p l e ({ frames := 3, cells := 1, slots := 2, locals := 46 } : Room) s m #[(.ref r0)] below meth c s₁ [] 0 0 := Stand.of_body Bd
  have e0 : s₁.heap = h0 := by rw [← hh, Bd.state]; rfl
  have N0 := Fr.nil n0
  have KR : Keep h0 h0 [] := Keep.refl h0 _
  show Good p e below (fun o U' => ∃ v L, o = .returned v ∧ Q34_2 Z r0 ar kk mr x0 x1 h0 n0 v U'.heap L ∧ FrameEnd s o U' L ({ frames := 3, cells := 1, slots := 2, locals := 46 } : Room).cells ({ frames := 3, cells := 1, slots := 2, locals := 46 } : Room).slots) _
  refine Good.back (S' := s₁.setTop (mkF m 0 #[.val (.ref r0)] [])) (fun t k => castTop (own_ef_34_2 m r0) k) ?_
  show Good p e below _ (s₁.setTop (mkF m 0 #[.val (.ref r0)] []))
  refine Good.back (fun _ k => XS.aloadN X0.here hx rfl (hb hby own_d34_0) rfl rfl k) ?_
  obtain ⟨T1, X1, e1, st1⟩ := getF X0 hx hZ hown (host := "") (Or.inl (hw _ (own_m 102 rfl))) Via.refl e0 Fe (g := (mkF m 1 #[.val (.ref r0)] [(.ref r0)])) rfl rfl (hb hby own_d34_1)
  refine Good.back st1 ?_
  refine Good.back (fun _ k => XS.aloadN X1.here hx rfl (hb hby own_d34_4) rfl rfl k) ?_
  obtain ⟨T2, X2, e2, st2⟩ := getF X1 hx hZ hown (host := "") (Or.inl (hw _ (own_m 135 rfl))) Via.refl e1 Fs (g := (mkF m 5 #[.val (.ref r0)] [(.ref r0), (.ref ar)])) rfl rfl (hb hby own_d34_5)
  refine Good.back st2 ?_
  obtain ⟨_, _, ⟨T3, L3, k3, n3⟩, -, X3, ⟨Lc3, hQ3, l3, y3, z3⟩, st3⟩ := Jvm.LawKit.callS X2 hx (y := (⟨"java/util/Arrays", "copyOf", "([Ljava/lang/Object;I)[Ljava/lang/Object;"⟩ : MethodName)) hown (mvT hZ (hw _ (own_m 217 rfl))) (mvT hZ (hw _ (own_m 218 rfl))) (mvT hZ (hw _ (own_m 219 rfl))) (mvT hZ (hw _ (own_m 220 rfl))) (by decide) (backOf (W := 0) (rm35_2 l Z a0 hw [] ar kk mr x0 x1 h0 n0 Z0 Ea Va (by first | assumption | decide) E_x0 E_x1) hZ (hw _ (own_m 220 rfl)) (hw _ (own_m 219 rfl)) (by decide) (by decide)) (g := (mkF m 8 #[.val (.ref r0)] [(.int (2 : Int32)), (.ref ar)])) rfl (by rw [hml]; rfl) (argsL := [(.ref ar), (.int (2 : Int32))]) (rest := []) (lenOf own_pd473 rfl) rfl (by show 2 * 0 + _ ≤ _; exact Nat.le_of_eq rfl) (hb hby own_d34_8) (fun _ _ => ⟨rfl, e2, (by decide : 0 + 1 ≤ _), (by decide : 0 + 2 ≤ _)⟩)
  dsimp only [Pt.U, Pt.locs, Pt.cells, Pt.slots] at X3 l3 y3 z3 st3 hQ3
  subst l3 y3 z3
  obtain ⟨cp_3, kc_3, rfl, N3q, Kq3, o3_0, o3_1, o3_2, o3_3⟩ := hQ3
  have N3 := Fr.app N0 N3q
  have Z4 : n0 ≤ T3.heap.size := Nat.le_trans Z0 Kq3.1
  have K5 : Keep h0 T3.heap [] := KR.trans Kq3 all0
  have g_cp_3 : n0 ≤ cp_3 := Nat.le_trans Z0 o3_0
  have sz_cp_3 : h0.size ≤ cp_3 := Nat.le_trans KR.1 o3_0
  refine Good.back st3 ?_
  show Good p e below _ (T3.setTop (mkF m 11 #[.val (.ref r0)] [(.ref cp_3)]))
  obtain ⟨fs6, hr6, hrun6, hended6, hW6, hsame6⟩ := X3.leave (v := some (.ref cp_3)) (fun h => by rw [Bd.returns] at h; cases h)
  refine Good.done (retOut X3 hx Bd.returns rfl (Or.inr (Or.inr (Or.inr (Or.inr ⟨rfl, rfl, rfl⟩)))) (hb hby own_d34_11) hr6) hrun6 hended6 ⟨_, _, rfl, ?_, ⟨_, rfl⟩, hW6, hsame6.mono (by decide) (by decide)⟩
  show Q34_2 Z r0 ar kk mr x0 x1 h0 n0 _ T3.heap _
  exact ⟨cp_3, kc_3, rfl, N3, K5, sz_cp_3, o3_1, o3_2, o3_3⟩
theorem own_pd522 : parseMethodDescriptor "(Ljava/lang/Object;Ljava/lang/Object;)V" = some ⟨[(.object "java/lang/Object"), (.object "java/lang/Object")], none⟩ := by decide +kernel
theorem own_d38_45 : decode jdk_40_method_47_code 45 = .ok (.new 96, 3) := by decide +kernel
theorem own_d38_48 : decode jdk_40_method_47_code 48 = .ok (.dup, 1) := by decide +kernel
theorem own_d38_49 : decode jdk_40_method_47_code 49 = .ok (.aload_n 0, 1) := by decide +kernel
theorem own_d38_50 : decode jdk_40_method_47_code 50 = .ok (.iconst 0, 1) := by decide +kernel
theorem own_d38_51 : decode jdk_40_method_47_code 51 = .ok (.aaload, 1) := by decide +kernel
theorem own_d38_52 : decode jdk_40_method_47_code 52 = .ok (.aload_n 0, 1) := by decide +kernel
theorem own_d38_53 : decode jdk_40_method_47_code 53 = .ok (.iconst 1, 1) := by decide +kernel
theorem own_d38_54 : decode jdk_40_method_47_code 54 = .ok (.aaload, 1) := by decide +kernel
theorem own_d38_55 : decode jdk_40_method_47_code 55 = .ok (.invokespecial 100, 3) := by decide +kernel
theorem own_d38_58 : decode jdk_40_method_47_code 58 = .ok (.areturn, 1) := by decide +kernel
theorem own_ef_38_2 (m : MethodId) (x0 : Addr) : entryFrame m #[(.ref x0)] 2 = mkF m 0 #[.val (.ref x0), .unset] [] := by first | (simp [entryFrame, mkF, argsToLocals, Value.category]; done) | rfl
def Q38_2 (Z : State) (r0 : Addr) (kk : ClassId) (x0 : Addr) (x1 : Addr) (h0 : Heap) (n0 : Nat) (v : Option Value) (h : Heap) (L : List Loc) : Prop := ∃ (li : Addr), v = some (.ref li) ∧ Fr n0 L ∧ Keep h0 h [] ∧ h0.size ≤ li ∧ Exa Z h li "java/util/ImmutableCollections$List12" ∧ Fld Z h li "java/util/ImmutableCollections$List12" "e0" "Ljava/lang/Object;" (.ref x0) ∧ Fld Z h li "java/util/ImmutableCollections$List12" "e1" "Ljava/lang/Object;" (.ref x1)
set_option maxRecDepth 65536 in
set_option maxHeartbeats 40000000 in
theorem rm38_2 (l : Launch) (Z : State) (a0 : Array Value) (hw : ∀ d ∈ tables_1, d.before a0 Z = true) (ws : List Jvm.Cond) (r0 : Addr) (kk : ClassId) (x0 : Addr) (x1 : Addr) (h0 : Heap) (n0 : Nat) (Z0 : n0 ≤ h0.size) (Va : Arv Z h0 r0 kk (.object "java/lang/Object") (2 : Int32) [(.ref x0), (.ref x1)] .null) (E_x0 : Exa Z h0 x0 "com/example/liken/liken/core/Token") (E_x1 : Exa Z h0 x1 "com/example/liken/liken/core/Token") :
    MetFree l (⟨"java/util/List", "of", "([Ljava/lang/Object;)Ljava/util/List;"⟩ : MethodName) (head1 (Jvm.Cond.code (⟨"java/util/List", "of", "([Ljava/lang/Object;)Ljava/util/List;"⟩ : MethodName) jdk_40_method_47_code 2 (some (.object "java/util/List")) :: ws) ({ frames := 5, cells := 1, slots := 2, locals := 63 } : Room)) (fun a U => a = #[(.ref r0)] ∧ Z.Warmed39 U.vm ∧ U.heap = h0) (fun _ _ _ _ _ => True) (fun _ U o U' => ∃ v L, o = .returned v ∧ Q38_2 Z r0 kk x0 x1 h0 n0 v U'.heap L ∧ FrameEnd U o U' L ({ frames := 5, cells := 1, slots := 2, locals := 63 } : Room).cells ({ frames := 5, cells := 1, slots := 2, locals := 63 } : Room).slots) := by
  refine MetFree.of_bodySF (plainFor_of_name own_pn14) hisR ?_
  intro p e s m args below meth c s₁ Bd hml0 hP hK
  obtain ⟨rfl, hZ, hh⟩ := hP
  have hx := Bd.exec
  have hby := Bd.bytes
  have hml : c.maxLocals = 2 := hml0
  have hown : s.vm.findClass "java/util/List" = some m.cls := findClass_of_methodNamed Bd.named
  have hnm := (name_of_methodNamed Bd.named Bd.method).1
  have X0 : Stand p l e ({ frames := 5, cells := 1, slots := 2, locals := 63 } : Room) s m #[(.ref r0)] below meth c s₁ [] 0 0 := Stand.of_body Bd
  have e0 : s₁.heap = h0 := by rw [← hh, Bd.state]; rfl
  have N0 := Fr.nil n0
  have KR : Keep h0 h0 [] := Keep.refl h0 _
  show Good p e below (fun o U' => ∃ v L, o = .returned v ∧ Q38_2 Z r0 kk x0 x1 h0 n0 v U'.heap L ∧ FrameEnd s o U' L ({ frames := 5, cells := 1, slots := 2, locals := 63 } : Room).cells ({ frames := 5, cells := 1, slots := 2, locals := 63 } : Room).slots) _
  refine Good.back (S' := s₁.setTop (mkF m 0 #[.val (.ref r0), .unset] [])) (fun t k => castTop (own_ef_38_2 m r0) k) ?_
  show Good p e below _ (s₁.setTop (mkF m 0 #[.val (.ref r0), .unset] []))
  refine Good.back (fun _ k => XS.aloadN X0.here hx rfl (hb hby own_d38_0) rfl rfl k) ?_
  have fc1 := Va
  obtain ⟨cl1, Ar1, qk1, S1, N1', H1, G1⟩ := fc1
  refine Good.back (X0.arraylength hx (by rw [e0]; exact Ar1.1) (State.isArrayOf_alike hZ.alike Ar1.2.1) (g := (mkF m 1 #[.val (.ref r0), .unset] [(.ref r0)])) rfl rfl (hb hby own_d38_1)) ?_
  rw [len_of S1 N1']
  show Good p e below _ (s₁.setTop (mkF m 2 #[.val (.ref r0), .unset] [(.int (2 : Int32))]))
  refine Good.back (fun _ k => XS.tswIn X0.here hx rfl (pc0 := 2) (pc' := 45) rfl (hb hby own_d38_2) rfl (by decide) (o := 43) (by decide) (by decide) (by decide) k) ?_
  show Good p e below _ (s₁.setTop (mkF m 45 #[.val (.ref r0), .unset] []))
  obtain ⟨T2, h2, X2, e2, E2, A2, D2, -, st2⟩ := newO X0 hx hZ hown (hw _ (own_m 242 rfl)) (hw _ (own_m 243 rfl)) (hw _ (own_m 244 rfl)) e0 (g := (mkF m 45 #[.val (.ref r0), .unset] [])) rfl (hb hby own_d38_45) (by decide) (by decide)
  obtain ⟨b2, g2⟩ : ∃ z, z = h0.size := ⟨_, rfl⟩
  rw [← g2] at A2 D2 st2
  refine Good.back st2 ?_
  have g_b2 : n0 ≤ b2 := Nat.le_trans Z0 (Nat.le_of_eq g2.symm)
  have sz_b2 : h0.size ≤ b2 := Nat.le_trans KR.1 (Nat.le_of_eq g2.symm)
  have Z3 : n0 ≤ h2.size := Nat.le_trans Z0 E2.1
  have K4 : Keep h0 h2 [] := KR.ext E2
  have f_5 : Exa Z h2 b2 "java/util/ImmutableCollections$List12" := A2
  have f_6 : Fld Z h2 b2 "java/util/ImmutableCollections$List12" "e0" "Ljava/lang/Object;" .null := D2 (Or.inr (hw _ (own_m 267 rfl))) (ty := (.object "java/lang/Object")) (by decide)
  have f_7 : Fld Z h2 b2 "java/util/ImmutableCollections$List12" "e1" "Ljava/lang/Object;" .null := D2 (Or.inr (hw _ (own_m 270 rfl))) (ty := (.object "java/lang/Object")) (by decide)
  refine Good.back (fun _ k => XS.dup X2.here hx rfl (hb hby own_d38_48) rfl rfl k) ?_
  refine Good.back (fun _ k => XS.aloadN X2.here hx rfl (hb hby own_d38_49) rfl rfl k) ?_
  refine Good.back (fun _ k => XS.iconst X2.here hx rfl (hb hby own_d38_50) k) ?_
  have f_8 : Arv Z h2 r0 kk (.object "java/lang/Object") (2 : Int32) [(.ref x0), (.ref x1)] .null := Arv.ext Va E2
  have fc9 := f_8
  obtain ⟨cl9, Ar9, qk9, S9, N9', H9, G9⟩ := fc9
  have hin9 : ¬ ((0 : Int32) < 0 ∨ cl9.slots.size ≤ ((0 : Int32)).toNatClampNeg) := inb_of S9 ⟨by decide, by decide⟩
  have hat9 : cl9.slots[((0 : Int32)).toNatClampNeg]? = some (.ref x0) := Has.at H9 hin9 rfl
  refine Good.back (X2.aaload hx (j := (0 : Int32)) (v := (.ref x0)) (by rw [e2]; exact Ar9.1) (State.isArrayOf_alike hZ.alike Ar9.2.1) rfl Ar9.2.2 hin9 hat9 (g := (mkF m 51 #[.val (.ref r0), .unset] [(.int (0 : Int32)), (.ref r0), (.ref b2), (.ref b2)])) rfl rfl (hb hby own_d38_51)) ?_
  refine Good.back (fun _ k => XS.aloadN X2.here hx rfl (hb hby own_d38_52) rfl rfl k) ?_
  refine Good.back (fun _ k => XS.iconst X2.here hx rfl (hb hby own_d38_53) k) ?_
  have fc10 := f_8
  obtain ⟨cl10, Ar10, qk10, S10, N10', H10, G10⟩ := fc10
  have hin10 : ¬ ((1 : Int32) < 0 ∨ cl10.slots.size ≤ ((1 : Int32)).toNatClampNeg) := inb_of S10 ⟨by decide, by decide⟩
  have hat10 : cl10.slots[((1 : Int32)).toNatClampNeg]? = some (.ref x1) := Has.at H10 hin10 rfl
  refine Good.back (X2.aaload hx (j := (1 : Int32)) (v := (.ref x1)) (by rw [e2]; exact Ar10.1) (State.isArrayOf_alike hZ.alike Ar10.2.1) rfl Ar10.2.2 hin10 hat10 (g := (mkF m 54 #[.val (.ref r0), .unset] [(.int (1 : Int32)), (.ref r0), (.ref x0), (.ref b2), (.ref b2)])) rfl rfl (hb hby own_d38_54)) ?_
  obtain ⟨_, _, ⟨T11, L11, k11, n11⟩, -, X11, ⟨Lc11, hQ11, l11, y11, z11⟩, st11⟩ := X2.specialBack hx (y := (⟨"java/util/ImmutableCollections$List12", "<init>", "(Ljava/lang/Object;Ljava/lang/Object;)V"⟩ : MethodName)) rfl hown (mvT hZ (hw _ (own_m 306 rfl))) (mvT hZ (hw _ (own_m 307 rfl))) (mvT hZ (hw _ (own_m 308 rfl))) (by decide) (backOf (W := 1) (rm48 l Z a0 hw [] b2 x0 x1  h2 n0 Z3 f_5 g_b2 f_6 f_7) hZ (hw _ (own_m 308 rfl)) (hw _ (own_m 244 rfl)) (by decide) (by decide)) (g := (mkF m 55 #[.val (.ref r0), .unset] [(.ref x1), (.ref x0), (.ref b2), (.ref b2)])) rfl (by rw [hml]; rfl) (Steps.refl _) (a := b2) (argsL := [(.ref x0), (.ref x1)]) (rest := [(.ref b2)]) (lenOf own_pd522 rfl) rfl (by show 2 * 0 + _ ≤ _; exact Nat.le_of_eq rfl) (hb hby own_d38_55) (fun _ _ => ⟨rfl, e2, (by decide : 1 + 0 ≤ _), (by decide : 2 + 0 ≤ _)⟩)
  dsimp only [Pt.U, Pt.locs, Pt.cells, Pt.slots] at X11 l11 y11 z11 st11 hQ11
  subst l11 y11 z11
  obtain ⟨rfl, N11q, Kq11, o11_0, o11_1⟩ := hQ11
  have N11 := Fr.app N0 N11q
  have Z12 : n0 ≤ T11.heap.size := Nat.le_trans Z3 Kq11.1
  have K13 : Keep h0 T11.heap [] := K4.trans Kq11 (allS (Or.inr sz_b2) all0)
  refine Good.back (fun _ k => st11.trans k) ?_
  show Good p e below _ (T11.setTop (mkF m 58 #[.val (.ref r0), .unset] [(.ref b2)]))
  obtain ⟨fs14, hr14, hrun14, hended14, hW14, hsame14⟩ := X11.leave (v := some (.ref b2)) (fun h => by rw [Bd.returns] at h; cases h)
  refine Good.done (retOut X11 hx Bd.returns rfl (Or.inr (Or.inr (Or.inr (Or.inr ⟨rfl, rfl, rfl⟩)))) (hb hby own_d38_58) hr14) hrun14 hended14 ⟨_, _, rfl, ?_, ⟨_, rfl⟩, hW14, hsame14.mono (by decide) (by decide)⟩
  show Q38_2 Z r0 kk x0 x1 h0 n0 _ T11.heap _
  have f_15 : Exa Z T11.heap b2 "java/util/ImmutableCollections$List12" := Exa.keep f_5 Kq11
  exact ⟨b2, rfl, N11, K13, sz_b2, f_15, o11_0, o11_1⟩
theorem own_ef_21_2 (m : MethodId) (x0 : Addr) : entryFrame m #[(.ref x0)] 2 = mkF m 0 #[.val (.ref x0), .unset] [] := by first | (simp [entryFrame, mkF, argsToLocals, Value.category]; done) | rfl
def Q21_2 (Z : State) (r0 : Addr) (ar : Addr) (kk : ClassId) (mr : Addr) (x0 : Addr) (x1 : Addr) (h0 : Heap) (n0 : Nat) (v : Option Value) (h : Heap) (L : List Loc) : Prop := ∃ (li : Addr), v = some (.ref li) ∧ Fr n0 L ∧ Keep h0 h [] ∧ h0.size ≤ li ∧ Exa Z h li "java/util/ImmutableCollections$List12" ∧ Fld Z h li "java/util/ImmutableCollections$List12" "e0" "Ljava/lang/Object;" (.ref x0) ∧ Fld Z h li "java/util/ImmutableCollections$List12" "e1" "Ljava/lang/Object;" (.ref x1)
set_option maxRecDepth 65536 in
set_option maxHeartbeats 40000000 in
theorem rm21_2 (l : Launch) (Z : State) (a0 : Array Value) (hw : ∀ d ∈ tables_1, d.before a0 Z = true) (ws : List Jvm.Cond) (r0 : Addr) (ar : Addr) (kk : ClassId) (mr : Addr) (x0 : Addr) (x1 : Addr) (h0 : Heap) (n0 : Nat) (Z0 : n0 ≤ h0.size) (E0 : Exa Z h0 r0 "java/util/ArrayList") (Fe : Fld Z h0 r0 "java/util/ArrayList" "elementData" "[Ljava/lang/Object;" (.ref ar)) (Fs : Fld Z h0 r0 "java/util/ArrayList" "size" "I" (.int (2 : Int32))) (Ea : Exa Z h0 ar "[Ljava/lang/Object;") (Va : Arv Z h0 ar kk (.object "java/lang/Object") (10 : Int32) [(.ref x0), (.ref x1), .null, .null, .null, .null, .null, .null, .null, .null] .null) (hmir : Mir Z "[Ljava/lang/Object;" mr) (E_x0 : Exa Z h0 x0 "com/example/liken/liken/core/Token") (E_x1 : Exa Z h0 x1 "com/example/liken/liken/core/Token") :
    MetFree l (⟨"java/util/ImmutableCollections", "listCopy", "(Ljava/util/Collection;)Ljava/util/List;"⟩ : MethodName) (head1 (Jvm.Cond.code (⟨"java/util/ImmutableCollections", "listCopy", "(Ljava/util/Collection;)Ljava/util/List;"⟩ : MethodName) jdk_56_method_3_code 2 (some (.object "java/util/List")) :: ws) ({ frames := 6, cells := 2, slots := 4, locals := 76 } : Room)) (fun a U => a = #[(.ref r0)] ∧ Z.Warmed39 U.vm ∧ U.heap = h0) (fun _ _ _ _ _ => True) (fun _ U o U' => ∃ v L, o = .returned v ∧ Q21_2 Z r0 ar kk mr x0 x1 h0 n0 v U'.heap L ∧ FrameEnd U o U' L ({ frames := 6, cells := 2, slots := 4, locals := 76 } : Room).cells ({ frames := 6, cells := 2, slots := 4, locals := 76 } : Room).slots) := by
  refine MetFree.of_bodySF (plainFor_of_name own_pn18) hisR ?_
  intro p e s m args below meth c s₁ Bd hml0 hP hK
  obtain ⟨rfl, hZ, hh⟩ := hP
  have hx := Bd.exec
  have hby := Bd.bytes
  have hml : c.maxLocals = 2 := hml0
  have hown : s.vm.findClass "java/util/ImmutableCollections" = some m.cls := findClass_of_methodNamed Bd.named
  have hnm := (name_of_methodNamed Bd.named Bd.method).1
  have X0 : Stand p l e ({ frames := 6, cells := 2, slots := 4, locals := 76 } : Room) s m #[(.ref r0)] below meth c s₁ [] 0 0 := Stand.of_body Bd
  have e0 : s₁.heap = h0 := by rw [← hh, Bd.state]; rfl
  have N0 := Fr.nil n0
  have KR : Keep h0 h0 [] := Keep.refl h0 _
  show Good p e below (fun o U' => ∃ v L, o = .returned v ∧ Q21_2 Z r0 ar kk mr x0 x1 h0 n0 v U'.heap L ∧ FrameEnd s o U' L ({ frames := 6, cells := 2, slots := 4, locals := 76 } : Room).cells ({ frames := 6, cells := 2, slots := 4, locals := 76 } : Room).slots) _
  refine Good.back (S' := s₁.setTop (mkF m 0 #[.val (.ref r0), .unset] [])) (fun t k => castTop (own_ef_21_2 m r0) k) ?_
  show Good p e below _ (s₁.setTop (mkF m 0 #[.val (.ref r0), .unset] []))
  refine Good.back (fun _ k => XS.aloadN X0.here hx rfl (hb hby own_d21_0) rfl rfl k) ?_
  obtain ⟨T1, X1, e1, st1⟩ := instNo X0 hx hZ hown (hw _ (own_m 124 rfl)) e0 E0 (own_nsNo (hw _ (own_m 109 rfl)) (hw _ (own_m 243 rfl)) (NS.step (hw _ (own_m 109 rfl)) (NS.step (hw _ (own_m 110 rfl)) (NS.step (hw _ (own_m 111 rfl)) (own_nsRoot (hw _ (own_m 112 rfl)) (hw _ (own_m 243 rfl)) (by decide)) (by decide)) (by decide)) (by decide)) (by decide)) (g := (mkF m 1 #[.val (.ref r0), .unset] [(.ref r0)])) rfl rfl (hb hby own_d21_1)
  refine Good.back st1 ?_
  show Good p e below _ (T1.setTop (mkF m 4 #[.val (.ref r0), .unset] [(.int (0 : Int32))]))
  refine Good.back (fun _ k => XS.ifNo X1.here hx rfl (hb hby own_d21_4) rfl ((if0 _ _).trans (teq (by decide : ((0 : Int32) = (0 : Int32)))).2) k) ?_
  show Good p e below _ (T1.setTop (mkF m 7 #[.val (.ref r0), .unset] []))
  refine Good.back (fun _ k => XS.aloadN X1.here hx rfl (hb hby own_d21_7) rfl rfl k) ?_
  obtain ⟨T2, X2, e2, st2⟩ := instNo X1 hx hZ hown (hw _ (own_m 125 rfl)) e1 E0 (own_nsNo (hw _ (own_m 109 rfl)) (hw _ (own_m 290 rfl)) (NS.step (hw _ (own_m 109 rfl)) (NS.step (hw _ (own_m 110 rfl)) (NS.step (hw _ (own_m 111 rfl)) (own_nsRoot (hw _ (own_m 112 rfl)) (hw _ (own_m 290 rfl)) (by decide)) (by decide)) (by decide)) (by decide)) (by decide)) (g := (mkF m 8 #[.val (.ref r0), .unset] [(.ref r0)])) rfl rfl (hb hby own_d21_8)
  refine Good.back st2 ?_
  show Good p e below _ (T2.setTop (mkF m 11 #[.val (.ref r0), .unset] [(.int (0 : Int32))]))
  refine Good.back (fun _ k => XS.ifYes X2.here hx rfl (pc0 := 11) (pc' := 31) rfl (hb hby own_d21_11) rfl ((if0 _ _).trans (teq (by decide : ((0 : Int32) = (0 : Int32)))).1) (by decide) (by decide) k) ?_
  show Good p e below _ (T2.setTop (mkF m 31 #[.val (.ref r0), .unset] []))
  refine Good.back (fun _ k => XS.aloadN X2.here hx rfl (hb hby own_d21_31) rfl rfl k) ?_
  obtain ⟨cq3, kq3, q3a, q3b, q3c⟩ := isOf hZ e2 E0
  obtain ⟨_, _, ⟨T3, L3, k3, n3⟩, -, X3, ⟨Lc3, hQ3, l3, y3, z3⟩, st3⟩ := X2.interfaceBack hx (xi := (⟨"java/util/Collection", "isEmpty", "()Z"⟩ : MethodName)) (y := (⟨"java/util/ArrayList", "isEmpty", "()Z"⟩ : MethodName)) hown (mvT hZ (hw _ (own_m 126 rfl))) (mvT hZ (hw _ (own_m 127 rfl))) (mvT hZ (hw _ (own_m 128 rfl))) (mvT hZ (hw _ (own_m 129 rfl))) (mvT hZ (hw _ (own_m 130 rfl))) (mvT hZ (hw _ (own_m 131 rfl))) (mvT hZ (hw _ (own_m 132 rfl))) (mvT hZ (hw _ (own_m 133 rfl))) (by decide) (backOf (W := 0) (rm22_2 l Z a0 hw [] r0  h0 n0 Z0 Fs) hZ (hw _ (own_m 134 rfl)) (hw _ (own_m 82 rfl)) (by decide) (by decide)) q3a q3b q3c (g := (mkF m 32 #[.val (.ref r0), .unset] [(.ref r0)])) rfl (by rw [hml]; rfl) (Steps.refl _) (argsL := []) (rest := []) (lenOf own_pd491 rfl) rfl (by show 2 * 0 + _ ≤ _; exact Nat.le_of_eq rfl) (hb hby own_d21_32) (fun _ _ => ⟨rfl, e2, (by decide : 0 + 0 ≤ _), (by decide : 0 + 0 ≤ _)⟩)
  dsimp only [Pt.U, Pt.locs, Pt.cells, Pt.slots] at X3 l3 y3 z3 st3 hQ3
  subst l3 y3 z3
  obtain ⟨rfl, N3q, eh3⟩ := hQ3
  have N3 := Fr.app N0 N3q
  refine Good.back (fun _ k => st3.trans k) ?_
  show Good p e below _ (T3.setTop (mkF m 37 #[.val (.ref r0), .unset] [(.int (0 : Int32))]))
  refine Good.back (fun _ k => XS.ifYes X3.here hx rfl (pc0 := 37) (pc' := 44) rfl (hb hby own_d21_37) rfl ((if0 _ _).trans (teq (by decide : ((0 : Int32) = (0 : Int32)))).1) (by decide) (by decide) k) ?_
  show Good p e below _ (T3.setTop (mkF m 44 #[.val (.ref r0), .unset] []))
  refine Good.back (fun _ k => XS.aloadN X3.here hx rfl (hb hby own_d21_44) rfl rfl k) ?_
  obtain ⟨cq4, kq4, q4a, q4b, q4c⟩ := isOf hZ eh3 E0
  obtain ⟨_, _, ⟨T4, L4, k4, n4⟩, -, X4, ⟨Lc4, hQ4, l4, y4, z4⟩, st4⟩ := X3.interfaceBack hx (xi := (⟨"java/util/Collection", "toArray", "()[Ljava/lang/Object;"⟩ : MethodName)) (y := (⟨"java/util/ArrayList", "toArray", "()[Ljava/lang/Object;"⟩ : MethodName)) hown (mvT hZ (hw _ (own_m 209 rfl))) (mvT hZ (hw _ (own_m 210 rfl))) (mvT hZ (hw _ (own_m 211 rfl))) (mvT hZ (hw _ (own_m 212 rfl))) (mvT hZ (hw _ (own_m 213 rfl))) (mvT hZ (hw _ (own_m 214 rfl))) (mvT hZ (hw _ (own_m 215 rfl))) (mvT hZ (hw _ (own_m 133 rfl))) (by decide) (backOf (W := 0) (rm34_2 l Z a0 hw [] r0 ar kk mr x0 x1 h0 n0 Z0 Fe Fs Ea Va (by first | assumption | decide) E_x0 E_x1) hZ (hw _ (own_m 216 rfl)) (hw _ (own_m 82 rfl)) (by decide) (by decide)) q4a q4b q4c (g := (mkF m 45 #[.val (.ref r0), .unset] [(.ref r0)])) rfl (by rw [hml]; rfl) (Steps.refl _) (argsL := []) (rest := []) (lenOf own_pd276 rfl) rfl (by show 2 * 0 + _ ≤ _; exact Nat.le_of_eq rfl) (hb hby own_d21_45) (fun _ _ => ⟨rfl, eh3, (by decide : 0 + 1 ≤ _), (by decide : 0 + 2 ≤ _)⟩)
  dsimp only [Pt.U, Pt.locs, Pt.cells, Pt.slots] at X4 l4 y4 z4 st4 hQ4
  subst l4 y4 z4
  obtain ⟨cp_4, kc_4, rfl, N4q, Kq4, o4_0, o4_1, o4_2, o4_3⟩ := hQ4
  have N4 := Fr.app N3 N4q
  have Z5 : n0 ≤ T4.heap.size := Nat.le_trans Z0 Kq4.1
  have K6 : Keep h0 T4.heap [] := KR.trans Kq4 all0
  have g_cp_4 : n0 ≤ cp_4 := Nat.le_trans Z0 o4_0
  have sz_cp_4 : h0.size ≤ cp_4 := Nat.le_trans KR.1 o4_0
  refine Good.back (fun _ k => st4.trans k) ?_
  have f_8 : Exa Z T4.heap x0 "com/example/liken/liken/core/Token" := Exa.keep E_x0 Kq4
  have f_9 : Exa Z T4.heap x1 "com/example/liken/liken/core/Token" := Exa.keep E_x1 Kq4
  obtain ⟨_, _, ⟨T7, L7, k7, n7⟩, -, X7, ⟨Lc7, hQ7, l7, y7, z7⟩, st7⟩ := Jvm.LawKit.callS X4 hx (y := (⟨"java/util/List", "of", "([Ljava/lang/Object;)Ljava/util/List;"⟩ : MethodName)) hown (mvT hZ (hw _ (own_m 239 rfl))) (mvT hZ (hw _ (own_m 240 rfl))) (mvT hZ (hw _ (own_m 118 rfl))) (mvT hZ (hw _ (own_m 241 rfl))) (by decide) (backOf (W := 0) (rm38_2 l Z a0 hw [] cp_4 kc_4 x0 x1 T4.heap n0 Z5 o4_2 f_8 f_9) hZ (hw _ (own_m 241 rfl)) (hw _ (own_m 118 rfl)) (by decide) (by decide)) (g := (mkF m 50 #[.val (.ref r0), .unset] [(.ref cp_4)])) rfl (by rw [hml]; rfl) (argsL := [(.ref cp_4)]) (rest := []) (lenOf own_pd492 rfl) rfl (by show 2 * 0 + _ ≤ _; exact Nat.le_of_eq rfl) (hb hby own_d21_50) (fun _ _ => ⟨rfl, rfl, (by decide : 1 + 1 ≤ _), (by decide : 2 + 2 ≤ _)⟩)
  dsimp only [Pt.U, Pt.locs, Pt.cells, Pt.slots] at X7 l7 y7 z7 st7 hQ7
  subst l7 y7 z7
  obtain ⟨li_7, rfl, N7q, Kq7, o7_0, o7_1, o7_2, o7_3⟩ := hQ7
  have N7 := Fr.app N4 N7q
  have Z10 : n0 ≤ T7.heap.size := Nat.le_trans Z5 Kq7.1
  have K11 : Keep h0 T7.heap [] := K6.trans Kq7 all0
  have g_li_7 : n0 ≤ li_7 := Nat.le_trans Z5 o7_0
  have sz_li_7 : h0.size ≤ li_7 := Nat.le_trans K6.1 o7_0
  refine Good.back st7 ?_
  show Good p e below _ (T7.setTop (mkF m 53 #[.val (.ref r0), .unset] [(.ref li_7)]))
  obtain ⟨fs12, hr12, hrun12, hended12, hW12, hsame12⟩ := X7.leave (v := some (.ref li_7)) (fun h => by rw [Bd.returns] at h; cases h)
  refine Good.done (retOut X7 hx Bd.returns rfl (Or.inr (Or.inr (Or.inr (Or.inr ⟨rfl, rfl, rfl⟩)))) (hb hby own_d21_53) hr12) hrun12 hended12 ⟨_, _, rfl, ?_, ⟨_, rfl⟩, hW12, hsame12.mono (by decide) (by decide)⟩
  show Q21_2 Z r0 ar kk mr x0 x1 h0 n0 _ T7.heap _
  exact ⟨li_7, rfl, N7, K11, sz_li_7, o7_1, o7_2, o7_3⟩
theorem own_ef_20_2 (m : MethodId) (x0 : Addr) : entryFrame m #[(.ref x0)] 1 = mkF m 0 #[.val (.ref x0)] [] := by first | (simp [entryFrame, mkF, argsToLocals, Value.category]; done) | rfl
def Q20_2 (Z : State) (r0 : Addr) (ar : Addr) (kk : ClassId) (mr : Addr) (x0 : Addr) (x1 : Addr) (h0 : Heap) (n0 : Nat) (v : Option Value) (h : Heap) (L : List Loc) : Prop := ∃ (li : Addr), v = some (.ref li) ∧ Fr n0 L ∧ Keep h0 h [] ∧ h0.size ≤ li ∧ Exa Z h li "java/util/ImmutableCollections$List12" ∧ Fld Z h li "java/util/ImmutableCollections$List12" "e0" "Ljava/lang/Object;" (.ref x0) ∧ Fld Z h li "java/util/ImmutableCollections$List12" "e1" "Ljava/lang/Object;" (.ref x1)
set_option maxRecDepth 65536 in
set_option maxHeartbeats 40000000 in
theorem rm20_2 (l : Launch) (Z : State) (a0 : Array Value) (hw : ∀ d ∈ tables_1, d.before a0 Z = true) (ws : List Jvm.Cond) (r0 : Addr) (ar : Addr) (kk : ClassId) (mr : Addr) (x0 : Addr) (x1 : Addr) (h0 : Heap) (n0 : Nat) (Z0 : n0 ≤ h0.size) (E0 : Exa Z h0 r0 "java/util/ArrayList") (Fe : Fld Z h0 r0 "java/util/ArrayList" "elementData" "[Ljava/lang/Object;" (.ref ar)) (Fs : Fld Z h0 r0 "java/util/ArrayList" "size" "I" (.int (2 : Int32))) (Ea : Exa Z h0 ar "[Ljava/lang/Object;") (Va : Arv Z h0 ar kk (.object "java/lang/Object") (10 : Int32) [(.ref x0), (.ref x1), .null, .null, .null, .null, .null, .null, .null, .null] .null) (hmir : Mir Z "[Ljava/lang/Object;" mr) (E_x0 : Exa Z h0 x0 "com/example/liken/liken/core/Token") (E_x1 : Exa Z h0 x1 "com/example/liken/liken/core/Token") :
    MetFree l (⟨"java/util/List", "copyOf", "(Ljava/util/Collection;)Ljava/util/List;"⟩ : MethodName) (head1 (Jvm.Cond.code (⟨"java/util/List", "copyOf", "(Ljava/util/Collection;)Ljava/util/List;"⟩ : MethodName) jdk_40_method_48_code 1 (some (.object "java/util/List")) :: ws) ({ frames := 7, cells := 2, slots := 4, locals := 89 } : Room)) (fun a U => a = #[(.ref r0)] ∧ Z.Warmed39 U.vm ∧ U.heap = h0) (fun _ _ _ _ _ => True) (fun _ U o U' => ∃ v L, o = .returned v ∧ Q20_2 Z r0 ar kk mr x0 x1 h0 n0 v U'.heap L ∧ FrameEnd U o U' L ({ frames := 7, cells := 2, slots := 4, locals := 89 } : Room).cells ({ frames := 7, cells := 2, slots := 4, locals := 89 } : Room).slots) := by
  refine MetFree.of_bodySF (plainFor_of_name own_pn14) hisR ?_
  intro p e s m args below meth c s₁ Bd hml0 hP hK
  obtain ⟨rfl, hZ, hh⟩ := hP
  have hx := Bd.exec
  have hby := Bd.bytes
  have hml : c.maxLocals = 1 := hml0
  have hown : s.vm.findClass "java/util/List" = some m.cls := findClass_of_methodNamed Bd.named
  have hnm := (name_of_methodNamed Bd.named Bd.method).1
  have X0 : Stand p l e ({ frames := 7, cells := 2, slots := 4, locals := 89 } : Room) s m #[(.ref r0)] below meth c s₁ [] 0 0 := Stand.of_body Bd
  have e0 : s₁.heap = h0 := by rw [← hh, Bd.state]; rfl
  have N0 := Fr.nil n0
  have KR : Keep h0 h0 [] := Keep.refl h0 _
  show Good p e below (fun o U' => ∃ v L, o = .returned v ∧ Q20_2 Z r0 ar kk mr x0 x1 h0 n0 v U'.heap L ∧ FrameEnd s o U' L ({ frames := 7, cells := 2, slots := 4, locals := 89 } : Room).cells ({ frames := 7, cells := 2, slots := 4, locals := 89 } : Room).slots) _
  refine Good.back (S' := s₁.setTop (mkF m 0 #[.val (.ref r0)] [])) (fun t k => castTop (own_ef_20_2 m r0) k) ?_
  show Good p e below _ (s₁.setTop (mkF m 0 #[.val (.ref r0)] []))
  refine Good.back (fun _ k => XS.aloadN X0.here hx rfl (hb hby own_d20_0) rfl rfl k) ?_
  obtain ⟨_, _, ⟨T1, L1, k1, n1⟩, -, X1, ⟨Lc1, hQ1, l1, y1, z1⟩, st1⟩ := Jvm.LawKit.callS X0 hx (y := (⟨"java/util/ImmutableCollections", "listCopy", "(Ljava/util/Collection;)Ljava/util/List;"⟩ : MethodName)) hown (mvT hZ (hw _ (own_m 120 rfl))) (mvT hZ (hw _ (own_m 121 rfl))) (mvT hZ (hw _ (own_m 122 rfl))) (mvT hZ (hw _ (own_m 123 rfl))) (by decide) (backOf (W := 0) (rm21_2 l Z a0 hw [] r0 ar kk mr x0 x1 h0 n0 Z0 E0 Fe Fs Ea Va (by first | assumption | decide) E_x0 E_x1) hZ (hw _ (own_m 123 rfl)) (hw _ (own_m 122 rfl)) (by decide) (by decide)) (g := (mkF m 1 #[.val (.ref r0)] [(.ref r0)])) rfl (by rw [hml]; rfl) (argsL := [(.ref r0)]) (rest := []) (lenOf own_pd506 rfl) rfl (by show 2 * 0 + _ ≤ _; exact Nat.le_of_eq rfl) (hb hby own_d20_1) (fun _ _ => ⟨rfl, e0, (by decide : 0 + 2 ≤ _), (by decide : 0 + 4 ≤ _)⟩)
  dsimp only [Pt.U, Pt.locs, Pt.cells, Pt.slots] at X1 l1 y1 z1 st1 hQ1
  subst l1 y1 z1
  obtain ⟨li_1, rfl, N1q, Kq1, o1_0, o1_1, o1_2, o1_3⟩ := hQ1
  have N1 := Fr.app N0 N1q
  have Z2 : n0 ≤ T1.heap.size := Nat.le_trans Z0 Kq1.1
  have K3 : Keep h0 T1.heap [] := KR.trans Kq1 all0
  have g_li_1 : n0 ≤ li_1 := Nat.le_trans Z0 o1_0
  have sz_li_1 : h0.size ≤ li_1 := Nat.le_trans KR.1 o1_0
  refine Good.back st1 ?_
  show Good p e below _ (T1.setTop (mkF m 4 #[.val (.ref r0)] [(.ref li_1)]))
  obtain ⟨fs4, hr4, hrun4, hended4, hW4, hsame4⟩ := X1.leave (v := some (.ref li_1)) (fun h => by rw [Bd.returns] at h; cases h)
  refine Good.done (retOut X1 hx Bd.returns rfl (Or.inr (Or.inr (Or.inr (Or.inr ⟨rfl, rfl, rfl⟩)))) (hb hby own_d20_4) hr4) hrun4 hended4 ⟨_, _, rfl, ?_, ⟨_, rfl⟩, hW4, hsame4.mono (by decide) (by decide)⟩
  show Q20_2 Z r0 ar kk mr x0 x1 h0 n0 _ T1.heap _
  exact ⟨li_1, rfl, N1, K3, sz_li_1, o1_1, o1_2, o1_3⟩
theorem own_ef_19_2 (m : MethodId) (x0 : Addr) : entryFrame m #[(.ref x0)] 2 = mkF m 0 #[.val (.ref x0), .unset] [] := by first | (simp [entryFrame, mkF, argsToLocals, Value.category]; done) | rfl
def Q19_2 (Z : State) (r0 : Addr) (ar : Addr) (kk : ClassId) (mr : Addr) (x0 : Addr) (x1 : Addr) (em : Addr) (h0 : Heap) (n0 : Nat) (v : Option Value) (h : Heap) (L : List Loc) : Prop := ∃ (ts : Addr) (li : Addr), v = some (.ref ts) ∧ Fr n0 L ∧ Keep h0 h [] ∧ h0.size ≤ ts ∧ Exa Z h ts "com/example/liken/liken/core/TokenSlice" ∧ Fld Z h ts "com/example/liken/liken/core/TokenSlice" "all" "Ljava/util/List;" (.ref li) ∧ Fld Z h ts "com/example/liken/liken/core/TokenSlice" "from" "I" (.int (0 : Int32)) ∧ Fld Z h ts "com/example/liken/liken/core/TokenSlice" "size" "I" (.int (2 : Int32)) ∧ h0.size ≤ li ∧ Exa Z h li "java/util/ImmutableCollections$List12" ∧ Fld Z h li "java/util/ImmutableCollections$List12" "e0" "Ljava/lang/Object;" (.ref x0) ∧ Fld Z h li "java/util/ImmutableCollections$List12" "e1" "Ljava/lang/Object;" (.ref x1)
set_option maxRecDepth 65536 in
set_option maxHeartbeats 40000000 in
theorem rm19_2 (l : Launch) (Z : State) (a0 : Array Value) (hw : ∀ d ∈ tables_1, d.before a0 Z = true) (ws : List Jvm.Cond) (r0 : Addr) (ar : Addr) (kk : ClassId) (mr : Addr) (x0 : Addr) (x1 : Addr) (em : Addr) (h0 : Heap) (n0 : Nat) (Z0 : n0 ≤ h0.size) (E0 : Exa Z h0 r0 "java/util/ArrayList") (Fe : Fld Z h0 r0 "java/util/ArrayList" "elementData" "[Ljava/lang/Object;" (.ref ar)) (Fs : Fld Z h0 r0 "java/util/ArrayList" "size" "I" (.int (2 : Int32))) (Ea : Exa Z h0 ar "[Ljava/lang/Object;") (Va : Arv Z h0 ar kk (.object "java/lang/Object") (10 : Int32) [(.ref x0), (.ref x1), .null, .null, .null, .null, .null, .null, .null, .null] .null) (hmir : Mir Z "[Ljava/lang/Object;" mr) (E_x0 : Exa Z h0 x0 "com/example/liken/liken/core/Token") (E_x1 : Exa Z h0 x1 "com/example/liken/liken/core/Token") (S_em : Sta Z h0 "java/util/ImmutableCollections" "EMPTY" "Ljava/lang/Object;" (.ref em)) (E_em : Exa Z h0 em "java/lang/Object") :
    MetFree l (⟨"com/example/liken/liken/core/TokenSlice", "of", "(Ljava/util/List;)Lcom/example/liken/liken/core/TokenSlice;"⟩ : MethodName) (head1 (Jvm.Cond.code (⟨"com/example/liken/liken/core/TokenSlice", "of", "(Ljava/util/List;)Lcom/example/liken/liken/core/TokenSlice;"⟩ : MethodName) prog_45_method_2_code 2 (some (.object "com/example/liken/liken/core/TokenSlice")) :: ws) ({ frames := 8, cells := 3, slots := 8, locals := 101 } : Room)) (fun a U => a = #[(.ref r0)] ∧ Z.Warmed39 U.vm ∧ U.heap = h0) (fun _ _ _ _ _ => True) (fun _ U o U' => ∃ v L, o = .returned v ∧ Q19_2 Z r0 ar kk mr x0 x1 em h0 n0 v U'.heap L ∧ FrameEnd U o U' L ({ frames := 8, cells := 3, slots := 8, locals := 101 } : Room).cells ({ frames := 8, cells := 3, slots := 8, locals := 101 } : Room).slots) := by
  refine MetFree.of_bodySF (plainFor_of_name own_pn12) hisR ?_
  intro p e s m args below meth c s₁ Bd hml0 hP hK
  obtain ⟨rfl, hZ, hh⟩ := hP
  have hx := Bd.exec
  have hby := Bd.bytes
  have hml : c.maxLocals = 2 := hml0
  have hown : s.vm.findClass "com/example/liken/liken/core/TokenSlice" = some m.cls := findClass_of_methodNamed Bd.named
  have hnm := (name_of_methodNamed Bd.named Bd.method).1
  have X0 : Stand p l e ({ frames := 8, cells := 3, slots := 8, locals := 101 } : Room) s m #[(.ref r0)] below meth c s₁ [] 0 0 := Stand.of_body Bd
  have e0 : s₁.heap = h0 := by rw [← hh, Bd.state]; rfl
  have N0 := Fr.nil n0
  have KR : Keep h0 h0 [] := Keep.refl h0 _
  show Good p e below (fun o U' => ∃ v L, o = .returned v ∧ Q19_2 Z r0 ar kk mr x0 x1 em h0 n0 v U'.heap L ∧ FrameEnd s o U' L ({ frames := 8, cells := 3, slots := 8, locals := 101 } : Room).cells ({ frames := 8, cells := 3, slots := 8, locals := 101 } : Room).slots) _
  refine Good.back (S' := s₁.setTop (mkF m 0 #[.val (.ref r0), .unset] [])) (fun t k => castTop (own_ef_19_2 m r0) k) ?_
  show Good p e below _ (s₁.setTop (mkF m 0 #[.val (.ref r0), .unset] []))
  refine Good.back (fun _ k => XS.aloadN X0.here hx rfl (hb hby own_d19_0) rfl rfl k) ?_
  obtain ⟨_, _, ⟨T1, L1, k1, n1⟩, -, X1, ⟨Lc1, hQ1, l1, y1, z1⟩, st1⟩ := Jvm.LawKit.callS X0 hx (y := (⟨"java/util/List", "copyOf", "(Ljava/util/Collection;)Ljava/util/List;"⟩ : MethodName)) hown (mvT hZ (hw _ (own_m 116 rfl))) (mvT hZ (hw _ (own_m 117 rfl))) (mvT hZ (hw _ (own_m 118 rfl))) (mvT hZ (hw _ (own_m 119 rfl))) (by decide) (backOf (W := 0) (rm20_2 l Z a0 hw [] r0 ar kk mr x0 x1 h0 n0 Z0 E0 Fe Fs Ea Va (by first | assumption | decide) E_x0 E_x1) hZ (hw _ (own_m 119 rfl)) (hw _ (own_m 118 rfl)) (by decide) (by decide)) (g := (mkF m 1 #[.val (.ref r0), .unset] [(.ref r0)])) rfl (by rw [hml]; rfl) (argsL := [(.ref r0)]) (rest := []) (lenOf own_pd506 rfl) rfl (by show 2 * 0 + _ ≤ _; exact Nat.le_of_eq rfl) (hb hby own_d19_1) (fun _ _ => ⟨rfl, e0, (by decide : 0 + 2 ≤ _), (by decide : 0 + 4 ≤ _)⟩)
  dsimp only [Pt.U, Pt.locs, Pt.cells, Pt.slots] at X1 l1 y1 z1 st1 hQ1
  subst l1 y1 z1
  obtain ⟨li_1, rfl, N1q, Kq1, o1_0, o1_1, o1_2, o1_3⟩ := hQ1
  have N1 := Fr.app N0 N1q
  have Z2 : n0 ≤ T1.heap.size := Nat.le_trans Z0 Kq1.1
  have K3 : Keep h0 T1.heap [] := KR.trans Kq1 all0
  have g_li_1 : n0 ≤ li_1 := Nat.le_trans Z0 o1_0
  have sz_li_1 : h0.size ≤ li_1 := Nat.le_trans KR.1 o1_0
  refine Good.back st1 ?_
  show Good p e below _ (T1.setTop (mkF m 4 #[.val (.ref r0), .unset] [(.ref li_1)]))
  refine Good.back (fun _ k => XS.astoreN X1.here hx rfl (hb hby own_d19_4) rfl rfl (l' := #[.val (.ref r0), .val (.ref li_1)]) rfl k) ?_
  obtain ⟨T4, h4, X4, e4, E4, A4, D4, -, st4⟩ := newO X1 hx hZ hown (hw _ (own_m 108 rfl)) (hw _ (own_m 141 rfl)) (hw _ (own_m 106 rfl)) rfl (g := (mkF m 5 #[.val (.ref r0), .val (.ref li_1)] [])) rfl (hb hby own_d19_5) (by decide) (by decide)
  obtain ⟨b4, g4⟩ : ∃ z, z = T1.heap.size := ⟨_, rfl⟩
  rw [← g4] at A4 D4 st4
  refine Good.back st4 ?_
  have g_b4 : n0 ≤ b4 := Nat.le_trans Z2 (Nat.le_of_eq g4.symm)
  have sz_b4 : h0.size ≤ b4 := Nat.le_trans K3.1 (Nat.le_of_eq g4.symm)
  have Z5 : n0 ≤ h4.size := Nat.le_trans Z2 E4.1
  have K6 : Keep h0 h4 [] := K3.ext E4
  have f_7 : Exa Z h4 b4 "com/example/liken/liken/core/TokenSlice" := A4
  have f_8 : Fld Z h4 b4 "java/util/AbstractList" "modCount" "I" (.int (0 : Int32)) := D4 (Or.inl (hw _ (own_m 159 rfl))) (ty := .int) (by decide)
  have f_9 : Fld Z h4 b4 "com/example/liken/liken/core/TokenSlice" "all" "Ljava/util/List;" .null := D4 (Or.inr (hw _ (own_m 161 rfl))) (ty := (.object "java/util/List")) (by decide)
  have f_10 : Fld Z h4 b4 "com/example/liken/liken/core/TokenSlice" "from" "I" (.int (0 : Int32)) := D4 (Or.inr (hw _ (own_m 163 rfl))) (ty := .int) (by decide)
  have f_11 : Fld Z h4 b4 "com/example/liken/liken/core/TokenSlice" "size" "I" (.int (0 : Int32)) := D4 (Or.inr (hw _ (own_m 165 rfl))) (ty := .int) (by decide)
  refine Good.back (fun _ k => XS.dup X4.here hx rfl (hb hby own_d19_8) rfl rfl k) ?_
  refine Good.back (fun _ k => XS.aloadN X4.here hx rfl (hb hby own_d19_9) rfl rfl k) ?_
  refine Good.back (fun _ k => XS.iconst X4.here hx rfl (hb hby own_d19_10) k) ?_
  refine Good.back (fun _ k => XS.aloadN X4.here hx rfl (hb hby own_d19_11) rfl rfl k) ?_
  show Good p e below _ (T4.setTop (mkF m 12 #[.val (.ref r0), .val (.ref li_1)] [(.ref li_1), (.int (0 : Int32)), (.ref li_1), (.ref b4), (.ref b4)]))
  have f_13 : Fld Z h4 li_1 "java/util/ImmutableCollections$List12" "e1" "Ljava/lang/Object;" (.ref x1) := Fld.ext E4 o1_3
  have f_14 : Sta Z T1.heap "java/util/ImmutableCollections" "EMPTY" "Ljava/lang/Object;" (.ref em) := own_staKeep S_em Kq1 all0
  have f_15 : Sta Z h4 "java/util/ImmutableCollections" "EMPTY" "Ljava/lang/Object;" (.ref em) := Sta.ext E4 f_14
  have ne_x1_em_16 : x1 ≠ em := Exa.ne E_x1 E_em (by decide)
  have f_17 : Exa Z h4 li_1 "java/util/ImmutableCollections$List12" := Exa.ext E4 o1_1
  obtain ⟨cq12, kq12, q12a, q12b, q12c⟩ := isOf hZ e4 f_17
  obtain ⟨_, _, ⟨T12, L12, k12, n12⟩, -, X12, ⟨Lc12, hQ12, l12, y12, z12⟩, st12⟩ := X4.interfaceBack hx (xi := (⟨"java/util/List", "size", "()I"⟩ : MethodName)) (y := (⟨"java/util/ImmutableCollections$List12", "size", "()I"⟩ : MethodName)) hown (mvT hZ (hw _ (own_m 142 rfl))) (mvT hZ (hw _ (own_m 143 rfl))) (mvT hZ (hw _ (own_m 144 rfl))) (mvT hZ (hw _ (own_m 271 rfl))) (mvT hZ (hw _ (own_m 272 rfl))) (mvT hZ (hw _ (own_m 273 rfl))) (mvT hZ (hw _ (own_m 274 rfl))) (mvT hZ (hw _ (own_m 275 rfl))) (by decide) (backOf (W := 4) (rm43_2 l Z a0 hw [] li_1 em x1 h4 n0 Z5 f_13 f_15 ne_x1_em_16) hZ (hw _ (own_m 276 rfl)) (hw _ (own_m 244 rfl)) (by decide) (by decide)) q12a q12b q12c (g := (mkF m 12 #[.val (.ref r0), .val (.ref li_1)] [(.ref li_1), (.int (0 : Int32)), (.ref li_1), (.ref b4), (.ref b4)])) rfl (by rw [hml]; rfl) (Steps.refl _) (argsL := []) (rest := [(.int (0 : Int32)), (.ref li_1), (.ref b4), (.ref b4)]) (lenOf own_pd510 rfl) rfl (by show 2 * 0 + _ ≤ _; exact Nat.le_of_eq rfl) (hb hby own_d19_12) (fun _ _ => ⟨rfl, e4, (by decide : 3 + 0 ≤ _), (by decide : 8 + 0 ≤ _)⟩)
  dsimp only [Pt.U, Pt.locs, Pt.cells, Pt.slots] at X12 l12 y12 z12 st12 hQ12
  subst l12 y12 z12
  obtain ⟨rfl, N12q, eh12⟩ := hQ12
  have N12 := Fr.app N1 N12q
  refine Good.back (fun _ k => st12.trans k) ?_
  obtain ⟨_, _, ⟨T18, L18, k18, n18⟩, -, X18, ⟨Lc18, hQ18, l18, y18, z18⟩, st18⟩ := X12.specialBack hx (y := (⟨"com/example/liken/liken/core/TokenSlice", "<init>", "(Ljava/util/List;II)V"⟩ : MethodName)) rfl hown (mvT hZ (hw _ (own_m 154 rfl))) (mvT hZ (hw _ (own_m 155 rfl))) (mvT hZ (hw _ (own_m 156 rfl))) (by decide) (backOf (W := 1) (rm25 l Z a0 hw [] b4 li_1 (0 : Int32) (2 : Int32)  h4 n0 Z5 f_7 g_b4 f_8 f_9 f_10 f_11) hZ (hw _ (own_m 156 rfl)) (hw _ (own_m 106 rfl)) (by decide) (by decide)) (g := (mkF m 17 #[.val (.ref r0), .val (.ref li_1)] [(.int (2 : Int32)), (.int (0 : Int32)), (.ref li_1), (.ref b4), (.ref b4)])) rfl (by rw [hml]; rfl) (Steps.refl _) (a := b4) (argsL := [(.ref li_1), (.int (0 : Int32)), (.int (2 : Int32))]) (rest := [(.ref b4)]) (lenOf own_pd351 rfl) rfl (by show 2 * 0 + _ ≤ _; exact Nat.le_of_eq rfl) (hb hby own_d19_17) (fun _ _ => ⟨rfl, eh12, (by decide : 3 + 0 ≤ _), (by decide : 8 + 0 ≤ _)⟩)
  dsimp only [Pt.U, Pt.locs, Pt.cells, Pt.slots] at X18 l18 y18 z18 st18 hQ18
  subst l18 y18 z18
  obtain ⟨rfl, N18q, Kq18, o18_0, o18_1, o18_2⟩ := hQ18
  have N18 := Fr.app N12 N18q
  have Z19 : n0 ≤ T18.heap.size := Nat.le_trans Z5 Kq18.1
  have K20 : Keep h0 T18.heap [] := K6.trans Kq18 (allS (Or.inr sz_b4) all0)
  refine Good.back (fun _ k => st18.trans k) ?_
  show Good p e below _ (T18.setTop (mkF m 20 #[.val (.ref r0), .val (.ref li_1)] [(.ref b4)]))
  obtain ⟨fs21, hr21, hrun21, hended21, hW21, hsame21⟩ := X18.leave (v := some (.ref b4)) (fun h => by rw [Bd.returns] at h; cases h)
  refine Good.done (retOut X18 hx Bd.returns rfl (Or.inr (Or.inr (Or.inr (Or.inr ⟨rfl, rfl, rfl⟩)))) (hb hby own_d19_20) hr21) hrun21 hended21 ⟨_, _, rfl, ?_, ⟨_, rfl⟩, hW21, hsame21.mono (by decide) (by decide)⟩
  show Q19_2 Z r0 ar kk mr x0 x1 em h0 n0 _ T18.heap _
  have f_22 : Exa Z T18.heap b4 "com/example/liken/liken/core/TokenSlice" := Exa.keep f_7 Kq18
  have f_23 : Exa Z T18.heap li_1 "java/util/ImmutableCollections$List12" := Exa.keep f_17 Kq18
  have f_24 : Fld Z h4 li_1 "java/util/ImmutableCollections$List12" "e0" "Ljava/lang/Object;" (.ref x0) := Fld.ext E4 o1_2
  have ne_li_1_b4_26 : li_1 ≠ b4 := Nat.ne_of_lt (Nat.lt_of_lt_of_le o1_3.lt (Nat.le_of_eq g4.symm))
  have f_25 : Fld Z T18.heap li_1 "java/util/ImmutableCollections$List12" "e0" "Ljava/lang/Object;" (.ref x0) := Fld.keep f_24 Kq18 (ninS ne_li_1_b4_26 nin0)
  have f_27 : Fld Z T18.heap li_1 "java/util/ImmutableCollections$List12" "e1" "Ljava/lang/Object;" (.ref x1) := Fld.keep f_13 Kq18 (ninS ne_li_1_b4_26 nin0)
  exact ⟨b4, li_1, rfl, N18, K20, sz_b4, f_22, o18_0, o18_1, o18_2, sz_li_1, f_23, f_25, f_27⟩
theorem own_ef_37_3 (m : MethodId) (x0 : Int32) (x1 : Int32) : entryFrame m #[(.int x0), (.int x1)] 2 = mkF m 0 #[.val (.int x0), .val (.int x1)] [] := by first | (simp [entryFrame, mkF, argsToLocals, Value.category]; done) | rfl
def Q37_3 (Z : State)  (h0 : Heap) (n0 : Nat) (v : Option Value) (h : Heap) (L : List Loc) : Prop := v = some (.int (3 : Int32)) ∧ Fr n0 L ∧ h = h0
set_option maxRecDepth 65536 in
set_option maxHeartbeats 40000000 in
theorem rm37_3 (l : Launch) (Z : State) (a0 : Array Value) (hw : ∀ d ∈ tables_1, d.before a0 Z = true) (ws : List Jvm.Cond)  (h0 : Heap) (n0 : Nat) (Z0 : n0 ≤ h0.size)  :
    MetFree l (⟨"java/lang/Math", "min", "(II)I"⟩ : MethodName) (head1 (Jvm.Cond.code (⟨"java/lang/Math", "min", "(II)I"⟩ : MethodName) jdk_29_method_69_code 2 (some .int) :: ws) ({ frames := 0, cells := 0, slots := 0, locals := 0 } : Room)) (fun a U => a = #[(.int (10 : Int32)), (.int (3 : Int32))] ∧ Z.Warmed39 U.vm ∧ U.heap = h0) (fun _ _ _ _ _ => True) (fun _ U o U' => ∃ v L, o = .returned v ∧ Q37_3 Z  h0 n0 v U'.heap L ∧ FrameEnd U o U' L ({ frames := 0, cells := 0, slots := 0, locals := 0 } : Room).cells ({ frames := 0, cells := 0, slots := 0, locals := 0 } : Room).slots) := by
  refine MetFree.of_bodySF (Jvm.Free.JP.mathPlain rfl (by decide +kernel)) hisR ?_
  intro p e s m args below meth c s₁ Bd hml0 hP hK
  obtain ⟨rfl, hZ, hh⟩ := hP
  have hx := Bd.exec
  have hby := Bd.bytes
  have hml : c.maxLocals = 2 := hml0
  have hown : s.vm.findClass "java/lang/Math" = some m.cls := findClass_of_methodNamed Bd.named
  have hnm := (name_of_methodNamed Bd.named Bd.method).1
  have X0 : Stand p l e ({ frames := 0, cells := 0, slots := 0, locals := 0 } : Room) s m #[(.int (10 : Int32)), (.int (3 : Int32))] below meth c s₁ [] 0 0 := Stand.of_body Bd
  have e0 : s₁.heap = h0 := by rw [← hh, Bd.state]; rfl
  have N0 := Fr.nil n0
  show Good p e below (fun o U' => ∃ v L, o = .returned v ∧ Q37_3 Z  h0 n0 v U'.heap L ∧ FrameEnd s o U' L ({ frames := 0, cells := 0, slots := 0, locals := 0 } : Room).cells ({ frames := 0, cells := 0, slots := 0, locals := 0 } : Room).slots) _
  refine Good.back (S' := s₁.setTop (mkF m 0 #[.val (.int (10 : Int32)), .val (.int (3 : Int32))] [])) (fun t k => castTop (own_ef_37_3 m (10 : Int32) (3 : Int32)) k) ?_
  show Good p e below _ (s₁.setTop (mkF m 0 #[.val (.int (10 : Int32)), .val (.int (3 : Int32))] []))
  refine Good.back (fun _ k => XS.iloadN X0.here hx rfl (hb hby own_d37_0) rfl k) ?_
  refine Good.back (fun _ k => XS.iloadN X0.here hx rfl (hb hby own_d37_1) rfl k) ?_
  show Good p e below _ (s₁.setTop (mkF m 2 #[.val (.int (10 : Int32)), .val (.int (3 : Int32))] [(.int (3 : Int32)), (.int (10 : Int32))]))
  refine Good.back (fun _ k => XS.icmpYes X0.here hx rfl (pc0 := 2) (pc' := 9) rfl (hb hby own_d37_2) rfl (tlt (by decide : ((3 : Int32) < (10 : Int32)))).2.2.1 (by decide) (by decide) k) ?_
  show Good p e below _ (s₁.setTop (mkF m 9 #[.val (.int (10 : Int32)), .val (.int (3 : Int32))] []))
  refine Good.back (fun _ k => XS.iloadN X0.here hx rfl (hb hby own_d37_9) rfl k) ?_
  show Good p e below _ (s₁.setTop (mkF m 10 #[.val (.int (10 : Int32)), .val (.int (3 : Int32))] [(.int (3 : Int32))]))
  obtain ⟨fs1, hr1, hrun1, hended1, hW1, hsame1⟩ := X0.leave (v := some (.int (3 : Int32))) (fun h => by rw [Bd.returns] at h; cases h)
  refine Good.done (retI X0 hx Bd.returns (hb hby own_d37_10) hr1) hrun1 hended1 ⟨_, _, rfl, ?_, ⟨_, rfl⟩, hW1, hsame1.mono (by decide) (by decide)⟩
  show Q37_3 Z  h0 n0 _ s₁.heap _
  rw [e0]
  exact ⟨rfl, N0, rfl⟩
theorem own_ef_36_3 (m : MethodId) (x0 : Addr) (x1 : Int32) (x2 : Addr) : entryFrame m #[(.ref x0), (.int x1), (.ref x2)] 4 = mkF m 0 #[.val (.ref x0), .val (.int x1), .val (.ref x2), .unset] [] := by first | (simp [entryFrame, mkF, argsToLocals, Value.category]; done) | rfl
def Q36_3 (Z : State) (r0 : Addr) (mr : Addr) (kk : ClassId) (x0 : Addr) (x1 : Addr) (x2 : Addr) (h0 : Heap) (n0 : Nat) (v : Option Value) (h : Heap) (L : List Loc) : Prop := ∃ (cp : Addr) (kc : ClassId), v = some (.ref cp) ∧ Fr n0 L ∧ Keep h0 h [] ∧ h0.size ≤ cp ∧ Exa Z h cp "[Ljava/lang/Object;" ∧ Arv Z h cp kc (.object "java/lang/Object") (3 : Int32) [(.ref x0), (.ref x1), (.ref x2)] .null ∧ Ovr Z kc "java/lang/Object"
set_option maxRecDepth 65536 in
set_option maxHeartbeats 40000000 in
theorem rm36_3 (l : Launch) (Z : State) (a0 : Array Value) (hw : ∀ d ∈ tables_1, d.before a0 Z = true) (ws : List Jvm.Cond) (r0 : Addr) (mr : Addr) (kk : ClassId) (x0 : Addr) (x1 : Addr) (x2 : Addr) (h0 : Heap) (n0 : Nat) (Z0 : n0 ≤ h0.size) (Va : Arv Z h0 r0 kk (.object "java/lang/Object") (10 : Int32) [(.ref x0), (.ref x1), (.ref x2), .null, .null, .null, .null, .null, .null, .null] .null) (hmir : Mir Z "[Ljava/lang/Object;" mr) (E_x0 : Exa Z h0 x0 "com/example/liken/liken/core/Token") (E_x1 : Exa Z h0 x1 "com/example/liken/liken/core/Token") (E_x2 : Exa Z h0 x2 "com/example/liken/liken/core/Token") :
    MetFree l (⟨"java/util/Arrays", "copyOf", "([Ljava/lang/Object;ILjava/lang/Class;)[Ljava/lang/Object;"⟩ : MethodName) (head1 (Jvm.Cond.code (⟨"java/util/Arrays", "copyOf", "([Ljava/lang/Object;ILjava/lang/Class;)[Ljava/lang/Object;"⟩ : MethodName) jdk_65_method_120_code 4 (some (.array (.object "java/lang/Object"))) :: ws) ({ frames := 1, cells := 1, slots := 3, locals := 18 } : Room)) (fun a U => a = #[(.ref r0), (.int (3 : Int32)), (.ref mr)] ∧ Z.Warmed39 U.vm ∧ U.heap = h0) (fun _ _ _ _ _ => True) (fun _ U o U' => ∃ v L, o = .returned v ∧ Q36_3 Z r0 mr kk x0 x1 x2 h0 n0 v U'.heap L ∧ FrameEnd U o U' L ({ frames := 1, cells := 1, slots := 3, locals := 18 } : Room).cells ({ frames := 1, cells := 1, slots := 3, locals := 18 } : Room).slots) := by
  refine MetFree.of_bodySF (plainFor_of_name own_pn17) hisR ?_
  intro p e s m args below meth c s₁ Bd hml0 hP hK
  obtain ⟨rfl, hZ, hh⟩ := hP
  have hx := Bd.exec
  have hby := Bd.bytes
  have hml : c.maxLocals = 4 := hml0
  have hown : s.vm.findClass "java/util/Arrays" = some m.cls := findClass_of_methodNamed Bd.named
  have hnm := (name_of_methodNamed Bd.named Bd.method).1
  have X0 : Stand p l e ({ frames := 1, cells := 1, slots := 3, locals := 18 } : Room) s m #[(.ref r0), (.int (3 : Int32)), (.ref mr)] below meth c s₁ [] 0 0 := Stand.of_body Bd
  have e0 : s₁.heap = h0 := by rw [← hh, Bd.state]; rfl
  have N0 := Fr.nil n0
  have KR : Keep h0 h0 [] := Keep.refl h0 _
  show Good p e below (fun o U' => ∃ v L, o = .returned v ∧ Q36_3 Z r0 mr kk x0 x1 x2 h0 n0 v U'.heap L ∧ FrameEnd s o U' L ({ frames := 1, cells := 1, slots := 3, locals := 18 } : Room).cells ({ frames := 1, cells := 1, slots := 3, locals := 18 } : Room).slots) _
  refine Good.back (S' := s₁.setTop (mkF m 0 #[.val (.ref r0), .val (.int (3 : Int32)), .val (.ref mr), .unset] [])) (fun t k => castTop (own_ef_36_3 m r0 (3 : Int32) mr) k) ?_
  show Good p e below _ (s₁.setTop (mkF m 0 #[.val (.ref r0), .val (.int (3 : Int32)), .val (.ref mr), .unset] []))
  refine Good.back (fun _ k => XS.aloadN X0.here hx rfl (hb hby own_d36_0) rfl rfl k) ?_
  show Good p e below _ (s₁.setTop (mkF m 1 #[.val (.ref r0), .val (.int (3 : Int32)), .val (.ref mr), .unset] [(.ref mr)]))
  obtain ⟨T1, X1, e1, st1⟩ := own_ldcMir X0 hx hZ hown (hw _ (own_m 230 rfl)) e0 hmir (g := (mkF m 1 #[.val (.ref r0), .val (.int (3 : Int32)), .val (.ref mr), .unset] [(.ref mr)])) rfl (hb hby own_d36_1)
  refine Good.back st1 ?_
  show Good p e below _ (T1.setTop (mkF m 3 #[.val (.ref r0), .val (.int (3 : Int32)), .val (.ref mr), .unset] [(.ref mr), (.ref mr)]))
  refine Good.back (fun _ k => Jvm.RoadKit.acmp (g := (mkF m 3 #[.val (.ref r0), .val (.int (3 : Int32)), .val (.ref mr), .unset] [(.ref mr), (.ref mr)])) X1 hx rfl rfl rfl (pc0 := 3) (pc' := 6) (same := true) rfl (hb hby own_d36_3) rfl (decide_eq_true rfl) (by decide) (by decide) k) ?_
  show Good p e below _ (T1.setTop (mkF m 6 #[.val (.ref r0), .val (.int (3 : Int32)), .val (.ref mr), .unset] []))
  refine Good.back (fun _ k => XS.iloadN X1.here hx rfl (hb hby own_d36_6) rfl k) ?_
  obtain ⟨T2, h2, k2, X2, e2, E2, A2, B2, O2, st2⟩ := newRE X1 hx hZ hown (hw _ (own_m 231 rfl)) (hw _ (own_m 207 rfl)) e1 (g := (mkF m 7 #[.val (.ref r0), .val (.int (3 : Int32)), .val (.ref mr), .unset] [(.int (3 : Int32))])) rfl (hb hby own_d36_7) rfl (by decide) (cap := 3) (by decide) (by decide) (by decide) (by decide) (ad := "[Ljava/lang/Object;") (by decide +kernel)
  obtain ⟨b2, g2⟩ : ∃ z, z = h0.size := ⟨_, rfl⟩
  rw [← g2] at A2 B2 st2
  refine Good.back st2 ?_
  have g_b2 : n0 ≤ b2 := Nat.le_trans Z0 (Nat.le_of_eq g2.symm)
  have sz_b2 : h0.size ≤ b2 := Nat.le_trans KR.1 (Nat.le_of_eq g2.symm)
  have Z3 : n0 ≤ h2.size := Nat.le_trans Z0 E2.1
  have K4 : Keep h0 h2 [] := KR.ext E2
  have f_5 : Exa Z h2 b2 "[Ljava/lang/Object;" := B2
  have f_6 : Arv Z h2 b2 k2 (.object "java/lang/Object") (3 : Int32) [.null, .null, .null] .null := (Arv.new A2 (by decide)).pad (pad_rep [] .null 3)
  show Good p e below _ (T2.setTop (mkF m 10 #[.val (.ref r0), .val (.int (3 : Int32)), .val (.ref mr), .unset] [(.ref b2)]))
  refine Good.back (fun _ k => XS.goto X2.here hx rfl (pc0 := 10) (pc' := 24) rfl (hb hby own_d36_10) (by decide) (by decide) k) ?_
  show Good p e below _ (T2.setTop (mkF m 24 #[.val (.ref r0), .val (.int (3 : Int32)), .val (.ref mr), .unset] [(.ref b2)]))
  refine Good.back (fun _ k => XS.astoreN X2.here hx rfl (hb hby own_d36_24) rfl rfl (l' := #[.val (.ref r0), .val (.int (3 : Int32)), .val (.ref mr), .val (.ref b2)]) rfl k) ?_
  refine Good.back (fun _ k => XS.aloadN X2.here hx rfl (hb hby own_d36_25) rfl rfl k) ?_
  refine Good.back (fun _ k => XS.iconst X2.here hx rfl (hb hby own_d36_26) k) ?_
  refine Good.back (fun _ k => XS.aloadN X2.here hx rfl (hb hby own_d36_27) rfl rfl k) ?_
  refine Good.back (fun _ k => XS.iconst X2.here hx rfl (hb hby own_d36_28) k) ?_
  show Good p e below _ (T2.setTop (mkF m 29 #[.val (.ref r0), .val (.int (3 : Int32)), .val (.ref mr), .val (.ref b2)] [(.int (0 : Int32)), (.ref b2), (.int (0 : Int32)), (.ref r0)]))
  refine Good.back (fun _ k => XS.aloadN X2.here hx rfl (hb hby own_d36_29) rfl rfl k) ?_
  have f_7 : Arv Z h2 r0 kk (.object "java/lang/Object") (10 : Int32) [(.ref x0), (.ref x1), (.ref x2), .null, .null, .null, .null, .null, .null, .null] .null := Arv.ext Va E2
  have fc8 := f_7
  obtain ⟨cl8, Ar8, qk8, S8, N8', H8, G8⟩ := fc8
  refine Good.back (X2.arraylength hx (by rw [e2]; exact Ar8.1) (State.isArrayOf_alike hZ.alike Ar8.2.1) (g := (mkF m 30 #[.val (.ref r0), .val (.int (3 : Int32)), .val (.ref mr), .val (.ref b2)] [(.ref r0), (.int (0 : Int32)), (.ref b2), (.int (0 : Int32)), (.ref r0)])) rfl rfl (hb hby own_d36_30)) ?_
  rw [len_of S8 N8']
  refine Good.back (fun _ k => XS.iloadN X2.here hx rfl (hb hby own_d36_31) rfl k) ?_
  obtain ⟨_, _, ⟨T9, L9, k9, n9⟩, -, X9, ⟨Lc9, hQ9, l9, y9, z9⟩, st9⟩ := Jvm.LawKit.callS X2 hx (y := (⟨"java/lang/Math", "min", "(II)I"⟩ : MethodName)) hown (mvT hZ (hw _ (own_m 232 rfl))) (mvT hZ (hw _ (own_m 233 rfl))) (mvT hZ (hw _ (own_m 204 rfl))) (mvT hZ (hw _ (own_m 234 rfl))) (by decide) (backOf (W := 4) (rm37_3 l Z a0 hw []   h2 n0 Z3 ) hZ (hw _ (own_m 234 rfl)) (hw _ (own_m 204 rfl)) (by decide) (by decide)) (g := (mkF m 32 #[.val (.ref r0), .val (.int (3 : Int32)), .val (.ref mr), .val (.ref b2)] [(.int (3 : Int32)), (.int (10 : Int32)), (.int (0 : Int32)), (.ref b2), (.int (0 : Int32)), (.ref r0)])) rfl (by rw [hml]; rfl) (argsL := [(.int (10 : Int32)), (.int (3 : Int32))]) (rest := [(.int (0 : Int32)), (.ref b2), (.int (0 : Int32)), (.ref r0)]) (lenOf own_pd249 rfl) rfl (by show 2 * 0 + _ ≤ _; exact Nat.le_of_eq rfl) (hb hby own_d36_32) (fun _ _ => ⟨rfl, e2, (by decide : 1 + 0 ≤ _), (by decide : 3 + 0 ≤ _)⟩)
  dsimp only [Pt.U, Pt.locs, Pt.cells, Pt.slots] at X9 l9 y9 z9 st9 hQ9
  subst l9 y9 z9
  obtain ⟨rfl, N9q, eh9⟩ := hQ9
  have N9 := Fr.app N0 N9q
  refine Good.back st9 ?_
  have fc10 := f_6
  obtain ⟨cl10, Ar10, qk10, S10, N10', H10, G10⟩ := fc10
  have f_10 : Exa Z h2 x2 "com/example/liken/liken/core/Token" := Exa.ext E2 E_x2
  have f_11 : Exa Z h2 x1 "com/example/liken/liken/core/Token" := Exa.ext E2 E_x1
  have f_12 : Exa Z h2 x0 "com/example/liken/liken/core/Token" := Exa.ext E2 E_x0
  obtain ⟨T13, h13, L13, X13, e13, N13, Kq13, A13, st13⟩ := cpA X9 hx hZ hown (hw _ (own_m 235 rfl)) (hw _ (own_m 238 rfl)) (hw _ (own_m 236 rfl)) (hw _ (own_m 237 rfl)) eh9 f_7 f_6 (us := [(.ref x0), (.ref x1), (.ref x2)]) (Or.inr ⟨rfl, rfl, ⟨Sto.ofV Ar10 qk10 O2 (Ins.of_exa f_12 (hw _ (own_m 208 rfl))), ⟨Sto.ofV Ar10 qk10 O2 (Ins.of_exa f_11 (hw _ (own_m 208 rfl))), ⟨Sto.ofV Ar10 qk10 O2 (Ins.of_exa f_10 (hw _ (own_m 208 rfl))), trivial⟩⟩⟩⟩) (by decide) (by decide) (by decide) (by decide) (by decide) rfl (by decide) N9 g_b2 (g := (mkF m 35 #[.val (.ref r0), .val (.int (3 : Int32)), .val (.ref mr), .val (.ref b2)] [(.int (3 : Int32)), (.int (0 : Int32)), (.ref b2), (.int (0 : Int32)), (.ref r0)])) rfl (by rw [hml]; rfl) rfl (hb hby own_d36_35) (by decide) (W := 0) (by show 2 * 0 + _ ≤ _; exact Nat.le_of_eq rfl) (by decide)
  refine Good.back st13 ?_
  have Z14 : n0 ≤ h13.size := Nat.le_trans Z3 Kq13.1
  have K15 : Keep h0 h13 [] := K4.trans Kq13 (allS (Or.inr sz_b2) all0)
  have f_16 : Arv Z h13 b2 k2 (.object "java/lang/Object") (3 : Int32) [(.ref x0), (.ref x1), (.ref x2)] .null := A13
  refine Good.back (fun _ k => XS.aloadN X13.here hx rfl (hb hby own_d36_38) rfl rfl k) ?_
  show Good p e below _ (T13.setTop (mkF m 39 #[.val (.ref r0), .val (.int (3 : Int32)), .val (.ref mr), .val (.ref b2)] [(.ref b2)]))
  obtain ⟨fs17, hr17, hrun17, hended17, hW17, hsame17⟩ := X13.leave (v := some (.ref b2)) (fun h => by rw [Bd.returns] at h; cases h)
  refine Good.done (retOut X13 hx Bd.returns rfl (Or.inr (Or.inr (Or.inr (Or.inr ⟨rfl, rfl, rfl⟩)))) (hb hby own_d36_39) hr17) hrun17 hended17 ⟨_, _, rfl, ?_, ⟨_, rfl⟩, hW17, hsame17.mono (by decide) (by decide)⟩
  show Q36_3 Z r0 mr kk x0 x1 x2 h0 n0 _ T13.heap _
  rw [e13]
  have f_18 : Exa Z h13 b2 "[Ljava/lang/Object;" := Exa.keep f_5 Kq13
  exact ⟨b2, k2, rfl, N13, K15, sz_b2, f_18, f_16, O2⟩
theorem own_ef_35_3 (m : MethodId) (x0 : Addr) (x1 : Int32) : entryFrame m #[(.ref x0), (.int x1)] 2 = mkF m 0 #[.val (.ref x0), .val (.int x1)] [] := by first | (simp [entryFrame, mkF, argsToLocals, Value.category]; done) | rfl
def Q35_3 (Z : State) (r0 : Addr) (kk : ClassId) (mr : Addr) (x0 : Addr) (x1 : Addr) (x2 : Addr) (h0 : Heap) (n0 : Nat) (v : Option Value) (h : Heap) (L : List Loc) : Prop := ∃ (cp : Addr) (kc : ClassId), v = some (.ref cp) ∧ Fr n0 L ∧ Keep h0 h [] ∧ h0.size ≤ cp ∧ Exa Z h cp "[Ljava/lang/Object;" ∧ Arv Z h cp kc (.object "java/lang/Object") (3 : Int32) [(.ref x0), (.ref x1), (.ref x2)] .null ∧ Ovr Z kc "java/lang/Object"
set_option maxRecDepth 65536 in
set_option maxHeartbeats 40000000 in
theorem rm35_3 (l : Launch) (Z : State) (a0 : Array Value) (hw : ∀ d ∈ tables_1, d.before a0 Z = true) (ws : List Jvm.Cond) (r0 : Addr) (kk : ClassId) (mr : Addr) (x0 : Addr) (x1 : Addr) (x2 : Addr) (h0 : Heap) (n0 : Nat) (Z0 : n0 ≤ h0.size) (E0 : Exa Z h0 r0 "[Ljava/lang/Object;") (Va : Arv Z h0 r0 kk (.object "java/lang/Object") (10 : Int32) [(.ref x0), (.ref x1), (.ref x2), .null, .null, .null, .null, .null, .null, .null] .null) (hmir : Mir Z "[Ljava/lang/Object;" mr) (E_x0 : Exa Z h0 x0 "com/example/liken/liken/core/Token") (E_x1 : Exa Z h0 x1 "com/example/liken/liken/core/Token") (E_x2 : Exa Z h0 x2 "com/example/liken/liken/core/Token") :
    MetFree l (⟨"java/util/Arrays", "copyOf", "([Ljava/lang/Object;I)[Ljava/lang/Object;"⟩ : MethodName) (head1 (Jvm.Cond.code (⟨"java/util/Arrays", "copyOf", "([Ljava/lang/Object;I)[Ljava/lang/Object;"⟩ : MethodName) jdk_65_method_119_code 2 (some (.array (.object "java/lang/Object"))) :: ws) ({ frames := 2, cells := 1, slots := 3, locals := 33 } : Room)) (fun a U => a = #[(.ref r0), (.int (3 : Int32))] ∧ Z.Warmed39 U.vm ∧ U.heap = h0) (fun _ _ _ _ _ => True) (fun _ U o U' => ∃ v L, o = .returned v ∧ Q35_3 Z r0 kk mr x0 x1 x2 h0 n0 v U'.heap L ∧ FrameEnd U o U' L ({ frames := 2, cells := 1, slots := 3, locals := 33 } : Room).cells ({ frames := 2, cells := 1, slots := 3, locals := 33 } : Room).slots) := by
  refine MetFree.of_bodySF (plainFor_of_name own_pn17) hisR ?_
  intro p e s m args below meth c s₁ Bd hml0 hP hK
  obtain ⟨rfl, hZ, hh⟩ := hP
  have hx := Bd.exec
  have hby := Bd.bytes
  have hml : c.maxLocals = 2 := hml0
  have hown : s.vm.findClass "java/util/Arrays" = some m.cls := findClass_of_methodNamed Bd.named
  have hnm := (name_of_methodNamed Bd.named Bd.method).1
  have X0 : Stand p l e ({ frames := 2, cells := 1, slots := 3, locals := 33 } : Room) s m #[(.ref r0), (.int (3 : Int32))] below meth c s₁ [] 0 0 := Stand.of_body Bd
  have e0 : s₁.heap = h0 := by rw [← hh, Bd.state]; rfl
  have N0 := Fr.nil n0
  have KR : Keep h0 h0 [] := Keep.refl h0 _
  show Good p e below (fun o U' => ∃ v L, o = .returned v ∧ Q35_3 Z r0 kk mr x0 x1 x2 h0 n0 v U'.heap L ∧ FrameEnd s o U' L ({ frames := 2, cells := 1, slots := 3, locals := 33 } : Room).cells ({ frames := 2, cells := 1, slots := 3, locals := 33 } : Room).slots) _
  refine Good.back (S' := s₁.setTop (mkF m 0 #[.val (.ref r0), .val (.int (3 : Int32))] [])) (fun t k => castTop (own_ef_35_3 m r0 (3 : Int32)) k) ?_
  show Good p e below _ (s₁.setTop (mkF m 0 #[.val (.ref r0), .val (.int (3 : Int32))] []))
  refine Good.back (fun _ k => XS.aloadN X0.here hx rfl (hb hby own_d35_0) rfl rfl k) ?_
  refine Good.back (fun _ k => XS.iloadN X0.here hx rfl (hb hby own_d35_1) rfl k) ?_
  refine Good.back (fun _ k => XS.aloadN X0.here hx rfl (hb hby own_d35_2) rfl rfl k) ?_
  obtain ⟨T1, X1, e1, st1⟩ := gcls X0 hx hZ hown (hw _ (own_m 221 rfl)) (hw _ (own_m 222 rfl)) (hw _ (own_m 112 rfl)) (hw _ (own_m 224 rfl)) (hw _ (own_m 223 rfl)) (hw _ (own_m 225 rfl)) e0 E0 hmir (g := (mkF m 3 #[.val (.ref r0), .val (.int (3 : Int32))] [(.ref r0), (.int (3 : Int32)), (.ref r0)])) rfl (by rw [hml]; rfl) rfl (hb hby own_d35_3) (by decide) (W := 2) (by show 2 * 0 + _ ≤ _; exact Nat.le_of_eq rfl) (by decide)
  refine Good.back st1 ?_
  obtain ⟨_, _, ⟨T2, L2, k2, n2⟩, -, X2, ⟨Lc2, hQ2, l2, y2, z2⟩, st2⟩ := Jvm.LawKit.callS X1 hx (y := (⟨"java/util/Arrays", "copyOf", "([Ljava/lang/Object;ILjava/lang/Class;)[Ljava/lang/Object;"⟩ : MethodName)) hown (mvT hZ (hw _ (own_m 227 rfl))) (mvT hZ (hw _ (own_m 228 rfl))) (mvT hZ (hw _ (own_m 219 rfl))) (mvT hZ (hw _ (own_m 229 rfl))) (by decide) (backOf (W := 0) (rm36_3 l Z a0 hw [] r0 mr kk x0 x1 x2 h0 n0 Z0 Va (by first | assumption | decide) E_x0 E_x1 E_x2) hZ (hw _ (own_m 229 rfl)) (hw _ (own_m 219 rfl)) (by decide) (by decide)) (g := (mkF m 6 #[.val (.ref r0), .val (.int (3 : Int32))] [(.ref mr), (.int (3 : Int32)), (.ref r0)])) rfl (by rw [hml]; rfl) (argsL := [(.ref r0), (.int (3 : Int32)), (.ref mr)]) (rest := []) (lenOf own_pd466 rfl) rfl (by show 2 * 0 + _ ≤ _; exact Nat.le_of_eq rfl) (hb hby own_d35_6) (fun _ _ => ⟨rfl, e1, (by decide : 0 + 1 ≤ _), (by decide : 0 + 3 ≤ _)⟩)
  dsimp only [Pt.U, Pt.locs, Pt.cells, Pt.slots] at X2 l2 y2 z2 st2 hQ2
  subst l2 y2 z2
  obtain ⟨cp_2, kc_2, rfl, N2q, Kq2, o2_0, o2_1, o2_2, o2_3⟩ := hQ2
  have N2 := Fr.app N0 N2q
  have Z3 : n0 ≤ T2.heap.size := Nat.le_trans Z0 Kq2.1
  have K4 : Keep h0 T2.heap [] := KR.trans Kq2 all0
  have g_cp_2 : n0 ≤ cp_2 := Nat.le_trans Z0 o2_0
  have sz_cp_2 : h0.size ≤ cp_2 := Nat.le_trans KR.1 o2_0
  refine Good.back st2 ?_
  show Good p e below _ (T2.setTop (mkF m 9 #[.val (.ref r0), .val (.int (3 : Int32))] [(.ref cp_2)]))
  obtain ⟨fs5, hr5, hrun5, hended5, hW5, hsame5⟩ := X2.leave (v := some (.ref cp_2)) (fun h => by rw [Bd.returns] at h; cases h)
  refine Good.done (retOut X2 hx Bd.returns rfl (Or.inr (Or.inr (Or.inr (Or.inr ⟨rfl, rfl, rfl⟩)))) (hb hby own_d35_9) hr5) hrun5 hended5 ⟨_, _, rfl, ?_, ⟨_, rfl⟩, hW5, hsame5.mono (by decide) (by decide)⟩
  show Q35_3 Z r0 kk mr x0 x1 x2 h0 n0 _ T2.heap _
  exact ⟨cp_2, kc_2, rfl, N2, K4, sz_cp_2, o2_1, o2_2, o2_3⟩
theorem own_ef_34_3 (m : MethodId) (x0 : Addr) : entryFrame m #[(.ref x0)] 1 = mkF m 0 #[.val (.ref x0)] [] := by first | (simp [entryFrame, mkF, argsToLocals, Value.category]; done) | rfl
def Q34_3 (Z : State) (r0 : Addr) (ar : Addr) (kk : ClassId) (mr : Addr) (x0 : Addr) (x1 : Addr) (x2 : Addr) (h0 : Heap) (n0 : Nat) (v : Option Value) (h : Heap) (L : List Loc) : Prop := ∃ (cp : Addr) (kc : ClassId), v = some (.ref cp) ∧ Fr n0 L ∧ Keep h0 h [] ∧ h0.size ≤ cp ∧ Exa Z h cp "[Ljava/lang/Object;" ∧ Arv Z h cp kc (.object "java/lang/Object") (3 : Int32) [(.ref x0), (.ref x1), (.ref x2)] .null ∧ Ovr Z kc "java/lang/Object"
set_option maxRecDepth 65536 in
set_option maxHeartbeats 40000000 in
theorem rm34_3 (l : Launch) (Z : State) (a0 : Array Value) (hw : ∀ d ∈ tables_1, d.before a0 Z = true) (ws : List Jvm.Cond) (r0 : Addr) (ar : Addr) (kk : ClassId) (mr : Addr) (x0 : Addr) (x1 : Addr) (x2 : Addr) (h0 : Heap) (n0 : Nat) (Z0 : n0 ≤ h0.size) (Fe : Fld Z h0 r0 "java/util/ArrayList" "elementData" "[Ljava/lang/Object;" (.ref ar)) (Fs : Fld Z h0 r0 "java/util/ArrayList" "size" "I" (.int (3 : Int32))) (Ea : Exa Z h0 ar "[Ljava/lang/Object;") (Va : Arv Z h0 ar kk (.object "java/lang/Object") (10 : Int32) [(.ref x0), (.ref x1), (.ref x2), .null, .null, .null, .null, .null, .null, .null] .null) (hmir : Mir Z "[Ljava/lang/Object;" mr) (E_x0 : Exa Z h0 x0 "com/example/liken/liken/core/Token") (E_x1 : Exa Z h0 x1 "com/example/liken/liken/core/Token") (E_x2 : Exa Z h0 x2 "com/example/liken/liken/core/Token") :
    MetFree l (⟨"java/util/ArrayList", "toArray", "()[Ljava/lang/Object;"⟩ : MethodName) (head1 (Jvm.Cond.code (⟨"java/util/ArrayList", "toArray", "()[Ljava/lang/Object;"⟩ : MethodName) jdk_38_method_16_code 1 (some (.array (.object "java/lang/Object"))) :: ws) ({ frames := 3, cells := 1, slots := 3, locals := 46 } : Room)) (fun a U => a = #[(.ref r0)] ∧ Z.Warmed39 U.vm ∧ U.heap = h0) (fun _ _ _ _ _ => True) (fun _ U o U' => ∃ v L, o = .returned v ∧ Q34_3 Z r0 ar kk mr x0 x1 x2 h0 n0 v U'.heap L ∧ FrameEnd U o U' L ({ frames := 3, cells := 1, slots := 3, locals := 46 } : Room).cells ({ frames := 3, cells := 1, slots := 3, locals := 46 } : Room).slots) := by
  refine MetFree.of_bodySF (plainFor_of_name own_pn11) hisR ?_
  intro p e s m args below meth c s₁ Bd hml0 hP hK
  obtain ⟨rfl, hZ, hh⟩ := hP
  have hx := Bd.exec
  have hby := Bd.bytes
  have hml : c.maxLocals = 1 := hml0
  have hown : s.vm.findClass "java/util/ArrayList" = some m.cls := findClass_of_methodNamed Bd.named
  have hnm := (name_of_methodNamed Bd.named Bd.method).1
  have X0 : Stand p l e ({ frames := 3, cells := 1, slots := 3, locals := 46 } : Room) s m #[(.ref r0)] below meth c s₁ [] 0 0 := Stand.of_body Bd
  have e0 : s₁.heap = h0 := by rw [← hh, Bd.state]; rfl
  have N0 := Fr.nil n0
  have KR : Keep h0 h0 [] := Keep.refl h0 _
  show Good p e below (fun o U' => ∃ v L, o = .returned v ∧ Q34_3 Z r0 ar kk mr x0 x1 x2 h0 n0 v U'.heap L ∧ FrameEnd s o U' L ({ frames := 3, cells := 1, slots := 3, locals := 46 } : Room).cells ({ frames := 3, cells := 1, slots := 3, locals := 46 } : Room).slots) _
  refine Good.back (S' := s₁.setTop (mkF m 0 #[.val (.ref r0)] [])) (fun t k => castTop (own_ef_34_3 m r0) k) ?_
  show Good p e below _ (s₁.setTop (mkF m 0 #[.val (.ref r0)] []))
  refine Good.back (fun _ k => XS.aloadN X0.here hx rfl (hb hby own_d34_0) rfl rfl k) ?_
  obtain ⟨T1, X1, e1, st1⟩ := getF X0 hx hZ hown (host := "") (Or.inl (hw _ (own_m 102 rfl))) Via.refl e0 Fe (g := (mkF m 1 #[.val (.ref r0)] [(.ref r0)])) rfl rfl (hb hby own_d34_1)
  refine Good.back st1 ?_
  refine Good.back (fun _ k => XS.aloadN X1.here hx rfl (hb hby own_d34_4) rfl rfl k) ?_
  obtain ⟨T2, X2, e2, st2⟩ := getF X1 hx hZ hown (host := "") (Or.inl (hw _ (own_m 135 rfl))) Via.refl e1 Fs (g := (mkF m 5 #[.val (.ref r0)] [(.ref r0), (.ref ar)])) rfl rfl (hb hby own_d34_5)
  refine Good.back st2 ?_
  obtain ⟨_, _, ⟨T3, L3, k3, n3⟩, -, X3, ⟨Lc3, hQ3, l3, y3, z3⟩, st3⟩ := Jvm.LawKit.callS X2 hx (y := (⟨"java/util/Arrays", "copyOf", "([Ljava/lang/Object;I)[Ljava/lang/Object;"⟩ : MethodName)) hown (mvT hZ (hw _ (own_m 217 rfl))) (mvT hZ (hw _ (own_m 218 rfl))) (mvT hZ (hw _ (own_m 219 rfl))) (mvT hZ (hw _ (own_m 220 rfl))) (by decide) (backOf (W := 0) (rm35_3 l Z a0 hw [] ar kk mr x0 x1 x2 h0 n0 Z0 Ea Va (by first | assumption | decide) E_x0 E_x1 E_x2) hZ (hw _ (own_m 220 rfl)) (hw _ (own_m 219 rfl)) (by decide) (by decide)) (g := (mkF m 8 #[.val (.ref r0)] [(.int (3 : Int32)), (.ref ar)])) rfl (by rw [hml]; rfl) (argsL := [(.ref ar), (.int (3 : Int32))]) (rest := []) (lenOf own_pd473 rfl) rfl (by show 2 * 0 + _ ≤ _; exact Nat.le_of_eq rfl) (hb hby own_d34_8) (fun _ _ => ⟨rfl, e2, (by decide : 0 + 1 ≤ _), (by decide : 0 + 3 ≤ _)⟩)
  dsimp only [Pt.U, Pt.locs, Pt.cells, Pt.slots] at X3 l3 y3 z3 st3 hQ3
  subst l3 y3 z3
  obtain ⟨cp_3, kc_3, rfl, N3q, Kq3, o3_0, o3_1, o3_2, o3_3⟩ := hQ3
  have N3 := Fr.app N0 N3q
  have Z4 : n0 ≤ T3.heap.size := Nat.le_trans Z0 Kq3.1
  have K5 : Keep h0 T3.heap [] := KR.trans Kq3 all0
  have g_cp_3 : n0 ≤ cp_3 := Nat.le_trans Z0 o3_0
  have sz_cp_3 : h0.size ≤ cp_3 := Nat.le_trans KR.1 o3_0
  refine Good.back st3 ?_
  show Good p e below _ (T3.setTop (mkF m 11 #[.val (.ref r0)] [(.ref cp_3)]))
  obtain ⟨fs6, hr6, hrun6, hended6, hW6, hsame6⟩ := X3.leave (v := some (.ref cp_3)) (fun h => by rw [Bd.returns] at h; cases h)
  refine Good.done (retOut X3 hx Bd.returns rfl (Or.inr (Or.inr (Or.inr (Or.inr ⟨rfl, rfl, rfl⟩)))) (hb hby own_d34_11) hr6) hrun6 hended6 ⟨_, _, rfl, ?_, ⟨_, rfl⟩, hW6, hsame6.mono (by decide) (by decide)⟩
  show Q34_3 Z r0 ar kk mr x0 x1 x2 h0 n0 _ T3.heap _
  exact ⟨cp_3, kc_3, rfl, N3, K5, sz_cp_3, o3_1, o3_2, o3_3⟩
theorem own_pd533 : parseMethodDescriptor "([Ljava/lang/Object;Z)V" = some ⟨[(.array (.object "java/lang/Object")), .boolean], none⟩ := by decide +kernel
theorem own_d45_0 : decode jdk_56_method_4_code 0 = .ok (.aload_n 0, 1) := by decide +kernel
theorem own_d45_1 : decode jdk_56_method_4_code 1 = .ok (.arraylength, 1) := by decide +kernel
theorem own_d45_2 : decode jdk_56_method_4_code 2 = .ok (.anewarray 2, 3) := by decide +kernel
theorem own_d45_5 : decode jdk_56_method_4_code 5 = .ok (.astore_n 1, 1) := by decide +kernel
theorem own_d45_6 : decode jdk_56_method_4_code 6 = .ok (.iconst 0, 1) := by decide +kernel
theorem own_d45_7 : decode jdk_56_method_4_code 7 = .ok (.istore_n 2, 1) := by decide +kernel
theorem own_d45_8 : decode jdk_56_method_4_code 8 = .ok (.iload_n 2, 1) := by decide +kernel
theorem own_d45_9 : decode jdk_56_method_4_code 9 = .ok (.aload_n 0, 1) := by decide +kernel
theorem own_d45_10 : decode jdk_56_method_4_code 10 = .ok (.arraylength, 1) := by decide +kernel
theorem own_d45_11 : decode jdk_56_method_4_code 11 = .ok (.if_icmp .ge 18, 3) := by decide +kernel
theorem own_d45_14 : decode jdk_56_method_4_code 14 = .ok (.aload_n 1, 1) := by decide +kernel
theorem own_d45_15 : decode jdk_56_method_4_code 15 = .ok (.iload_n 2, 1) := by decide +kernel
theorem own_d45_16 : decode jdk_56_method_4_code 16 = .ok (.aload_n 0, 1) := by decide +kernel
theorem own_d45_17 : decode jdk_56_method_4_code 17 = .ok (.iload_n 2, 1) := by decide +kernel
theorem own_d45_18 : decode jdk_56_method_4_code 18 = .ok (.aaload, 1) := by decide +kernel
theorem own_d45_19 : decode jdk_56_method_4_code 19 = .ok (.invokestatic 37, 3) := by decide +kernel
theorem own_d45_22 : decode jdk_56_method_4_code 22 = .ok (.aastore, 1) := by decide +kernel
theorem own_d45_23 : decode jdk_56_method_4_code 23 = .ok (.iinc 2 1, 3) := by decide +kernel
theorem own_d45_26 : decode jdk_56_method_4_code 26 = .ok (.goto (-18), 3) := by decide +kernel
theorem own_d45_29 : decode jdk_56_method_4_code 29 = .ok (.new 12, 3) := by decide +kernel
theorem own_d45_32 : decode jdk_56_method_4_code 32 = .ok (.dup, 1) := by decide +kernel
theorem own_d45_33 : decode jdk_56_method_4_code 33 = .ok (.aload_n 1, 1) := by decide +kernel
theorem own_d45_34 : decode jdk_56_method_4_code 34 = .ok (.iconst 0, 1) := by decide +kernel
theorem own_d45_35 : decode jdk_56_method_4_code 35 = .ok (.invokespecial 43, 3) := by decide +kernel
theorem own_d45_38 : decode jdk_56_method_4_code 38 = .ok (.areturn, 1) := by decide +kernel
theorem own_ef_45 (m : MethodId) (x0 : Addr) : entryFrame m #[(.ref x0)] 3 = mkF m 0 #[.val (.ref x0), .unset, .unset] [] := by first | (simp [entryFrame, mkF, argsToLocals, Value.category]; done) | rfl
def Q45 (Z : State) (r0 : Addr) (kk : ClassId) (x0 : Addr) (x1 : Addr) (x2 : Addr) (h0 : Heap) (n0 : Nat) (v : Option Value) (h : Heap) (L : List Loc) : Prop := ∃ (li : Addr) (ea : Addr) (ke : ClassId), v = some (.ref li) ∧ Fr n0 L ∧ Keep h0 h [] ∧ h0.size ≤ li ∧ h0.size ≤ ea ∧ Exa Z h li "java/util/ImmutableCollections$ListN" ∧ Fld Z h li "java/util/ImmutableCollections$ListN" "elements" "[Ljava/lang/Object;" (.ref ea) ∧ Arv Z h ea ke (.object "java/lang/Object") (3 : Int32) [(.ref x0), (.ref x1), (.ref x2)] .null
set_option maxRecDepth 65536 in
set_option maxHeartbeats 40000000 in
theorem rm45 (l : Launch) (Z : State) (a0 : Array Value) (hw : ∀ d ∈ tables_1, d.before a0 Z = true) (ws : List Jvm.Cond) (r0 : Addr) (kk : ClassId) (x0 : Addr) (x1 : Addr) (x2 : Addr) (h0 : Heap) (n0 : Nat) (Z0 : n0 ≤ h0.size) (Va : Arv Z h0 r0 kk (.object "java/lang/Object") (3 : Int32) [(.ref x0), (.ref x1), (.ref x2)] .null) (E_x0 : Exa Z h0 x0 "com/example/liken/liken/core/Token") (E_x1 : Exa Z h0 x1 "com/example/liken/liken/core/Token") (E_x2 : Exa Z h0 x2 "com/example/liken/liken/core/Token") :
    MetFree l (⟨"java/util/ImmutableCollections", "listFromArray", "([Ljava/lang/Object;)Ljava/util/List;"⟩ : MethodName) (head1 (Jvm.Cond.code (⟨"java/util/ImmutableCollections", "listFromArray", "([Ljava/lang/Object;)Ljava/util/List;"⟩ : MethodName) jdk_56_method_4_code 3 (some (.object "java/util/List")) :: ws) ({ frames := 5, cells := 2, slots := 5, locals := 63 } : Room)) (fun a U => a = #[(.ref r0)] ∧ Z.Warmed39 U.vm ∧ U.heap = h0) (fun _ _ _ _ _ => True) (fun _ U o U' => ∃ v L, o = .returned v ∧ Q45 Z r0 kk x0 x1 x2 h0 n0 v U'.heap L ∧ FrameEnd U o U' L ({ frames := 5, cells := 2, slots := 5, locals := 63 } : Room).cells ({ frames := 5, cells := 2, slots := 5, locals := 63 } : Room).slots) := by
  refine MetFree.of_bodySF (plainFor_of_name own_pn18) hisR ?_
  intro p e s m args below meth c s₁ Bd hml0 hP hK
  obtain ⟨rfl, hZ, hh⟩ := hP
  have hx := Bd.exec
  have hby := Bd.bytes
  have hml : c.maxLocals = 3 := hml0
  have hown : s.vm.findClass "java/util/ImmutableCollections" = some m.cls := findClass_of_methodNamed Bd.named
  have hnm := (name_of_methodNamed Bd.named Bd.method).1
  have X0 : Stand p l e ({ frames := 5, cells := 2, slots := 5, locals := 63 } : Room) s m #[(.ref r0)] below meth c s₁ [] 0 0 := Stand.of_body Bd
  have e0 : s₁.heap = h0 := by rw [← hh, Bd.state]; rfl
  have N0 := Fr.nil n0
  have KR : Keep h0 h0 [] := Keep.refl h0 _
  show Good p e below (fun o U' => ∃ v L, o = .returned v ∧ Q45 Z r0 kk x0 x1 x2 h0 n0 v U'.heap L ∧ FrameEnd s o U' L ({ frames := 5, cells := 2, slots := 5, locals := 63 } : Room).cells ({ frames := 5, cells := 2, slots := 5, locals := 63 } : Room).slots) _
  refine Good.back (S' := s₁.setTop (mkF m 0 #[.val (.ref r0), .unset, .unset] [])) (fun t k => castTop (own_ef_45 m r0) k) ?_
  show Good p e below _ (s₁.setTop (mkF m 0 #[.val (.ref r0), .unset, .unset] []))
  refine Good.back (fun _ k => XS.aloadN X0.here hx rfl (hb hby own_d45_0) rfl rfl k) ?_
  have fc1 := Va
  obtain ⟨cl1, Ar1, qk1, S1, N1', H1, G1⟩ := fc1
  refine Good.back (X0.arraylength hx (by rw [e0]; exact Ar1.1) (State.isArrayOf_alike hZ.alike Ar1.2.1) (g := (mkF m 1 #[.val (.ref r0), .unset, .unset] [(.ref r0)])) rfl rfl (hb hby own_d45_1)) ?_
  rw [len_of S1 N1']
  obtain ⟨T2, h2, k2, X2, e2, E2, A2, B2, O2, st2⟩ := newRE X0 hx hZ hown (hw _ (own_m 288 rfl)) (hw _ (own_m 207 rfl)) e0 (g := (mkF m 2 #[.val (.ref r0), .unset, .unset] [(.int (3 : Int32))])) rfl (hb hby own_d45_2) rfl (by decide) (cap := 3) (by decide) (by decide) (by decide) (by decide) (ad := "[Ljava/lang/Object;") (by decide +kernel)
  obtain ⟨b2, g2⟩ : ∃ z, z = h0.size := ⟨_, rfl⟩
  rw [← g2] at A2 B2 st2
  refine Good.back st2 ?_
  have g_b2 : n0 ≤ b2 := Nat.le_trans Z0 (Nat.le_of_eq g2.symm)
  have sz_b2 : h0.size ≤ b2 := Nat.le_trans KR.1 (Nat.le_of_eq g2.symm)
  have Z3 : n0 ≤ h2.size := Nat.le_trans Z0 E2.1
  have K4 : Keep h0 h2 [] := KR.ext E2
  have f_5 : Exa Z h2 b2 "[Ljava/lang/Object;" := B2
  have f_6 : Arv Z h2 b2 k2 (.object "java/lang/Object") (3 : Int32) [.null, .null, .null] .null := (Arv.new A2 (by decide)).pad (pad_rep [] .null 3)
  show Good p e below _ (T2.setTop (mkF m 5 #[.val (.ref r0), .unset, .unset] [(.ref b2)]))
  refine Good.back (fun _ k => XS.astoreN X2.here hx rfl (hb hby own_d45_5) rfl rfl (l' := #[.val (.ref r0), .val (.ref b2), .unset]) rfl k) ?_
  refine Good.back (fun _ k => XS.iconst X2.here hx rfl (hb hby own_d45_6) k) ?_
  show Good p e below _ (T2.setTop (mkF m 7 #[.val (.ref r0), .val (.ref b2), .unset] [(.int (0 : Int32))]))
  refine Good.back (fun _ k => XS.istoreN X2.here hx rfl (hb hby own_d45_7) rfl (l' := #[.val (.ref r0), .val (.ref b2), .val (.int (0 : Int32))]) rfl k) ?_
  refine Good.back (fun _ k => XS.iloadN X2.here hx rfl (hb hby own_d45_8) rfl k) ?_
  refine Good.back (fun _ k => XS.aloadN X2.here hx rfl (hb hby own_d45_9) rfl rfl k) ?_
  have f_7 : Arv Z h2 r0 kk (.object "java/lang/Object") (3 : Int32) [(.ref x0), (.ref x1), (.ref x2)] .null := Arv.ext Va E2
  have fc8 := f_7
  obtain ⟨cl8, Ar8, qk8, S8, N8', H8, G8⟩ := fc8
  refine Good.back (X2.arraylength hx (by rw [e2]; exact Ar8.1) (State.isArrayOf_alike hZ.alike Ar8.2.1) (g := (mkF m 10 #[.val (.ref r0), .val (.ref b2), .val (.int (0 : Int32))] [(.ref r0), (.int (0 : Int32))])) rfl rfl (hb hby own_d45_10)) ?_
  rw [len_of S8 N8']
  show Good p e below _ (T2.setTop (mkF m 11 #[.val (.ref r0), .val (.ref b2), .val (.int (0 : Int32))] [(.int (3 : Int32)), (.int (0 : Int32))]))
  refine Good.back (fun _ k => XS.icmpNo X2.here hx rfl (hb hby own_d45_11) rfl (tlt (by decide : ((0 : Int32) < (3 : Int32)))).2.1 k) ?_
  show Good p e below _ (T2.setTop (mkF m 14 #[.val (.ref r0), .val (.ref b2), .val (.int (0 : Int32))] []))
  refine Good.back (fun _ k => XS.aloadN X2.here hx rfl (hb hby own_d45_14) rfl rfl k) ?_
  refine Good.back (fun _ k => XS.iloadN X2.here hx rfl (hb hby own_d45_15) rfl k) ?_
  refine Good.back (fun _ k => XS.aloadN X2.here hx rfl (hb hby own_d45_16) rfl rfl k) ?_
  refine Good.back (fun _ k => XS.iloadN X2.here hx rfl (hb hby own_d45_17) rfl k) ?_
  have fc9 := f_7
  obtain ⟨cl9, Ar9, qk9, S9, N9', H9, G9⟩ := fc9
  have hin9 : ¬ ((0 : Int32) < 0 ∨ cl9.slots.size ≤ ((0 : Int32)).toNatClampNeg) := inb_of S9 ⟨by decide, by decide⟩
  have hat9 : cl9.slots[((0 : Int32)).toNatClampNeg]? = some (.ref x0) := Has.at H9 hin9 rfl
  refine Good.back (X2.aaload hx (j := (0 : Int32)) (v := (.ref x0)) (by rw [e2]; exact Ar9.1) (State.isArrayOf_alike hZ.alike Ar9.2.1) rfl Ar9.2.2 hin9 hat9 (g := (mkF m 18 #[.val (.ref r0), .val (.ref b2), .val (.int (0 : Int32))] [(.int (0 : Int32)), (.ref r0), (.int (0 : Int32)), (.ref b2)])) rfl rfl (hb hby own_d45_18)) ?_
  obtain ⟨_, _, ⟨T10, L10, k10, n10⟩, -, X10, ⟨Lc10, hQ10, l10, y10, z10⟩, st10⟩ := Jvm.LawKit.callS X2 hx (y := (⟨"java/util/Objects", "requireNonNull", "(Ljava/lang/Object;)Ljava/lang/Object;"⟩ : MethodName)) hown (mvT hZ (hw _ (own_m 289 rfl))) (mvT hZ (hw _ (own_m 264 rfl))) (mvT hZ (hw _ (own_m 68 rfl))) (mvT hZ (hw _ (own_m 265 rfl))) (by decide) (backOf (W := 2) (rm42 l Z a0 hw [] x0  h2 n0 Z3 ) hZ (hw _ (own_m 265 rfl)) (hw _ (own_m 68 rfl)) (by decide) (by decide)) (g := (mkF m 19 #[.val (.ref r0), .val (.ref b2), .val (.int (0 : Int32))] [(.ref x0), (.int (0 : Int32)), (.ref b2)])) rfl (by rw [hml]; rfl) (argsL := [(.ref x0)]) (rest := [(.int (0 : Int32)), (.ref b2)]) (lenOf own_pd380 rfl) rfl (by show 2 * 0 + _ ≤ _; exact Nat.le_of_eq rfl) (hb hby own_d45_19) (fun _ _ => ⟨rfl, e2, (by decide : 1 + 0 ≤ _), (by decide : 3 + 0 ≤ _)⟩)
  dsimp only [Pt.U, Pt.locs, Pt.cells, Pt.slots] at X10 l10 y10 z10 st10 hQ10
  subst l10 y10 z10
  obtain ⟨rfl, N10q, eh10⟩ := hQ10
  have N10 := Fr.app N0 N10q
  refine Good.back st10 ?_
  have fc11 := f_6
  obtain ⟨cl11, Ar11, qk11, S11, N11', H11, G11⟩ := fc11
  have hin11 : ¬ ((0 : Int32) < 0 ∨ cl11.slots.size ≤ ((0 : Int32)).toNatClampNeg) := inb_of S11 ⟨by decide, by decide⟩
  have f_11 : Exa Z h2 x0 "com/example/liken/liken/core/Token" := Exa.ext E2 E_x0
  obtain ⟨T12, h12, X12, e12, W12, st12⟩ := stR X10 hx hZ eh10 Ar11 (j := (0 : Int32)) hin11 rfl (Sto.ofV Ar11 qk11 O2 (Ins.of_exa f_11 (hw _ (own_m 208 rfl)))) (g := (mkF m 22 #[.val (.ref r0), .val (.ref b2), .val (.int (0 : Int32))] [(.ref x0), (.int (0 : Int32)), (.ref b2)])) rfl rfl (hb hby own_d45_22)
  refine Good.back st12 ?_
  have f_13 : Arv Z h12 b2 k2 (.object "java/lang/Object") (3 : Int32) [(.ref x0), .null, .null] .null := Arv.set Ar11 qk11 S11 N11' H11 G11 rfl W12 0 rfl (Nat.le_of_ble_eq_true rfl)
  have N12 := Fr.snoc X12 N10 g_b2
  have Z14 : n0 ≤ h12.size := Nat.le_trans Z3 (Keep.of_wr W12).1
  have K15 : Keep h0 h12 [] := K4.wr W12 (Or.inr sz_b2)
  show Good p e below _ (T12.setTop (mkF m 23 #[.val (.ref r0), .val (.ref b2), .val (.int (0 : Int32))] []))
  refine Good.back (fun _ k => XS.iinc X12.here hx rfl (hb hby own_d45_23) rfl (l' := #[.val (.ref r0), .val (.ref b2), .val (.int ((0 : Int32) + (1 : Int32)))]) rfl k) ?_
  show Good p e below _ (T12.setTop (mkF m 26 #[.val (.ref r0), .val (.ref b2), .val (.int ((0 : Int32) + (1 : Int32)))] []))
  rw [show (((0 : Int32) + (1 : Int32)) : Int32) = (1 : Int32) from by decide]
  show Good p e below _ (T12.setTop (mkF m 26 #[.val (.ref r0), .val (.ref b2), .val (.int (1 : Int32))] []))
  refine Good.back (fun _ k => XS.goto X12.here hx rfl (pc0 := 26) (pc' := 8) rfl (hb hby own_d45_26) (by decide) (by decide) k) ?_
  refine Good.back (fun _ k => XS.iloadN X12.here hx rfl (hb hby own_d45_8) rfl k) ?_
  refine Good.back (fun _ k => XS.aloadN X12.here hx rfl (hb hby own_d45_9) rfl rfl k) ?_
  have ne_r0_b2_17 : r0 ≠ b2 := Nat.ne_of_lt (Nat.lt_of_lt_of_le Va.lt (Nat.le_of_eq g2.symm))
  have f_16 : Arv Z h12 r0 kk (.object "java/lang/Object") (3 : Int32) [(.ref x0), (.ref x1), (.ref x2)] .null := Arv.other f_7 W12 ne_r0_b2_17
  have fc18 := f_16
  obtain ⟨cl18, Ar18, qk18, S18, N18', H18, G18⟩ := fc18
  refine Good.back (X12.arraylength hx (by rw [e12]; exact Ar18.1) (State.isArrayOf_alike hZ.alike Ar18.2.1) (g := (mkF m 10 #[.val (.ref r0), .val (.ref b2), .val (.int (1 : Int32))] [(.ref r0), (.int (1 : Int32))])) rfl rfl (hb hby own_d45_10)) ?_
  rw [len_of S18 N18']
  show Good p e below _ (T12.setTop (mkF m 11 #[.val (.ref r0), .val (.ref b2), .val (.int (1 : Int32))] [(.int (3 : Int32)), (.int (1 : Int32))]))
  refine Good.back (fun _ k => XS.icmpNo X12.here hx rfl (hb hby own_d45_11) rfl (tlt (by decide : ((1 : Int32) < (3 : Int32)))).2.1 k) ?_
  show Good p e below _ (T12.setTop (mkF m 14 #[.val (.ref r0), .val (.ref b2), .val (.int (1 : Int32))] []))
  refine Good.back (fun _ k => XS.aloadN X12.here hx rfl (hb hby own_d45_14) rfl rfl k) ?_
  refine Good.back (fun _ k => XS.iloadN X12.here hx rfl (hb hby own_d45_15) rfl k) ?_
  refine Good.back (fun _ k => XS.aloadN X12.here hx rfl (hb hby own_d45_16) rfl rfl k) ?_
  refine Good.back (fun _ k => XS.iloadN X12.here hx rfl (hb hby own_d45_17) rfl k) ?_
  have fc19 := f_16
  obtain ⟨cl19, Ar19, qk19, S19, N19', H19, G19⟩ := fc19
  have hin19 : ¬ ((1 : Int32) < 0 ∨ cl19.slots.size ≤ ((1 : Int32)).toNatClampNeg) := inb_of S19 ⟨by decide, by decide⟩
  have hat19 : cl19.slots[((1 : Int32)).toNatClampNeg]? = some (.ref x1) := Has.at H19 hin19 rfl
  refine Good.back (X12.aaload hx (j := (1 : Int32)) (v := (.ref x1)) (by rw [e12]; exact Ar19.1) (State.isArrayOf_alike hZ.alike Ar19.2.1) rfl Ar19.2.2 hin19 hat19 (g := (mkF m 18 #[.val (.ref r0), .val (.ref b2), .val (.int (1 : Int32))] [(.int (1 : Int32)), (.ref r0), (.int (1 : Int32)), (.ref b2)])) rfl rfl (hb hby own_d45_18)) ?_
  obtain ⟨_, _, ⟨T20, L20, k20, n20⟩, -, X20, ⟨Lc20, hQ20, l20, y20, z20⟩, st20⟩ := Jvm.LawKit.callS X12 hx (y := (⟨"java/util/Objects", "requireNonNull", "(Ljava/lang/Object;)Ljava/lang/Object;"⟩ : MethodName)) hown (mvT hZ (hw _ (own_m 289 rfl))) (mvT hZ (hw _ (own_m 264 rfl))) (mvT hZ (hw _ (own_m 68 rfl))) (mvT hZ (hw _ (own_m 265 rfl))) (by decide) (backOf (W := 2) (rm42 l Z a0 hw [] x1  h12 n0 Z14 ) hZ (hw _ (own_m 265 rfl)) (hw _ (own_m 68 rfl)) (by decide) (by decide)) (g := (mkF m 19 #[.val (.ref r0), .val (.ref b2), .val (.int (1 : Int32))] [(.ref x1), (.int (1 : Int32)), (.ref b2)])) rfl (by rw [hml]; rfl) (argsL := [(.ref x1)]) (rest := [(.int (1 : Int32)), (.ref b2)]) (lenOf own_pd380 rfl) rfl (by show 2 * 0 + _ ≤ _; exact Nat.le_of_eq rfl) (hb hby own_d45_19) (fun _ _ => ⟨rfl, e12, (by decide : 1 + 0 ≤ _), (by decide : 3 + 0 ≤ _)⟩)
  dsimp only [Pt.U, Pt.locs, Pt.cells, Pt.slots] at X20 l20 y20 z20 st20 hQ20
  subst l20 y20 z20
  obtain ⟨rfl, N20q, eh20⟩ := hQ20
  have N20 := Fr.app N12 N20q
  refine Good.back st20 ?_
  have fc21 := f_13
  obtain ⟨cl21, Ar21, qk21, S21, N21', H21, G21⟩ := fc21
  have hin21 : ¬ ((1 : Int32) < 0 ∨ cl21.slots.size ≤ ((1 : Int32)).toNatClampNeg) := inb_of S21 ⟨by decide, by decide⟩
  have f_21 : Exa Z h2 x1 "com/example/liken/liken/core/Token" := Exa.ext E2 E_x1
  have f_22 : Exa Z h12 x1 "com/example/liken/liken/core/Token" := Exa.wr W12 f_21
  obtain ⟨T23, h23, X23, e23, W23, st23⟩ := stR X20 hx hZ eh20 Ar21 (j := (1 : Int32)) hin21 rfl (Sto.ofV Ar21 qk21 O2 (Ins.of_exa f_22 (hw _ (own_m 208 rfl)))) (g := (mkF m 22 #[.val (.ref r0), .val (.ref b2), .val (.int (1 : Int32))] [(.ref x1), (.int (1 : Int32)), (.ref b2)])) rfl rfl (hb hby own_d45_22)
  refine Good.back st23 ?_
  have f_24 : Arv Z h23 b2 k2 (.object "java/lang/Object") (3 : Int32) [(.ref x0), (.ref x1), .null] .null := Arv.set Ar21 qk21 S21 N21' H21 G21 rfl W23 1 rfl (Nat.le_of_ble_eq_true rfl)
  have N23 := Fr.snoc X23 N20 g_b2
  have Z25 : n0 ≤ h23.size := Nat.le_trans Z14 (Keep.of_wr W23).1
  have K26 : Keep h0 h23 [] := K15.wr W23 (Or.inr sz_b2)
  show Good p e below _ (T23.setTop (mkF m 23 #[.val (.ref r0), .val (.ref b2), .val (.int (1 : Int32))] []))
  refine Good.back (fun _ k => XS.iinc X23.here hx rfl (hb hby own_d45_23) rfl (l' := #[.val (.ref r0), .val (.ref b2), .val (.int ((1 : Int32) + (1 : Int32)))]) rfl k) ?_
  show Good p e below _ (T23.setTop (mkF m 26 #[.val (.ref r0), .val (.ref b2), .val (.int ((1 : Int32) + (1 : Int32)))] []))
  rw [show (((1 : Int32) + (1 : Int32)) : Int32) = (2 : Int32) from by decide]
  show Good p e below _ (T23.setTop (mkF m 26 #[.val (.ref r0), .val (.ref b2), .val (.int (2 : Int32))] []))
  refine Good.back (fun _ k => XS.goto X23.here hx rfl (pc0 := 26) (pc' := 8) rfl (hb hby own_d45_26) (by decide) (by decide) k) ?_
  refine Good.back (fun _ k => XS.iloadN X23.here hx rfl (hb hby own_d45_8) rfl k) ?_
  refine Good.back (fun _ k => XS.aloadN X23.here hx rfl (hb hby own_d45_9) rfl rfl k) ?_
  have f_27 : Arv Z h23 r0 kk (.object "java/lang/Object") (3 : Int32) [(.ref x0), (.ref x1), (.ref x2)] .null := Arv.other f_16 W23 ne_r0_b2_17
  have fc28 := f_27
  obtain ⟨cl28, Ar28, qk28, S28, N28', H28, G28⟩ := fc28
  refine Good.back (X23.arraylength hx (by rw [e23]; exact Ar28.1) (State.isArrayOf_alike hZ.alike Ar28.2.1) (g := (mkF m 10 #[.val (.ref r0), .val (.ref b2), .val (.int (2 : Int32))] [(.ref r0), (.int (2 : Int32))])) rfl rfl (hb hby own_d45_10)) ?_
  rw [len_of S28 N28']
  show Good p e below _ (T23.setTop (mkF m 11 #[.val (.ref r0), .val (.ref b2), .val (.int (2 : Int32))] [(.int (3 : Int32)), (.int (2 : Int32))]))
  refine Good.back (fun _ k => XS.icmpNo X23.here hx rfl (hb hby own_d45_11) rfl (tlt (by decide : ((2 : Int32) < (3 : Int32)))).2.1 k) ?_
  show Good p e below _ (T23.setTop (mkF m 14 #[.val (.ref r0), .val (.ref b2), .val (.int (2 : Int32))] []))
  refine Good.back (fun _ k => XS.aloadN X23.here hx rfl (hb hby own_d45_14) rfl rfl k) ?_
  refine Good.back (fun _ k => XS.iloadN X23.here hx rfl (hb hby own_d45_15) rfl k) ?_
  refine Good.back (fun _ k => XS.aloadN X23.here hx rfl (hb hby own_d45_16) rfl rfl k) ?_
  refine Good.back (fun _ k => XS.iloadN X23.here hx rfl (hb hby own_d45_17) rfl k) ?_
  have fc29 := f_27
  obtain ⟨cl29, Ar29, qk29, S29, N29', H29, G29⟩ := fc29
  have hin29 : ¬ ((2 : Int32) < 0 ∨ cl29.slots.size ≤ ((2 : Int32)).toNatClampNeg) := inb_of S29 ⟨by decide, by decide⟩
  have hat29 : cl29.slots[((2 : Int32)).toNatClampNeg]? = some (.ref x2) := Has.at H29 hin29 rfl
  refine Good.back (X23.aaload hx (j := (2 : Int32)) (v := (.ref x2)) (by rw [e23]; exact Ar29.1) (State.isArrayOf_alike hZ.alike Ar29.2.1) rfl Ar29.2.2 hin29 hat29 (g := (mkF m 18 #[.val (.ref r0), .val (.ref b2), .val (.int (2 : Int32))] [(.int (2 : Int32)), (.ref r0), (.int (2 : Int32)), (.ref b2)])) rfl rfl (hb hby own_d45_18)) ?_
  obtain ⟨_, _, ⟨T30, L30, k30, n30⟩, -, X30, ⟨Lc30, hQ30, l30, y30, z30⟩, st30⟩ := Jvm.LawKit.callS X23 hx (y := (⟨"java/util/Objects", "requireNonNull", "(Ljava/lang/Object;)Ljava/lang/Object;"⟩ : MethodName)) hown (mvT hZ (hw _ (own_m 289 rfl))) (mvT hZ (hw _ (own_m 264 rfl))) (mvT hZ (hw _ (own_m 68 rfl))) (mvT hZ (hw _ (own_m 265 rfl))) (by decide) (backOf (W := 2) (rm42 l Z a0 hw [] x2  h23 n0 Z25 ) hZ (hw _ (own_m 265 rfl)) (hw _ (own_m 68 rfl)) (by decide) (by decide)) (g := (mkF m 19 #[.val (.ref r0), .val (.ref b2), .val (.int (2 : Int32))] [(.ref x2), (.int (2 : Int32)), (.ref b2)])) rfl (by rw [hml]; rfl) (argsL := [(.ref x2)]) (rest := [(.int (2 : Int32)), (.ref b2)]) (lenOf own_pd380 rfl) rfl (by show 2 * 0 + _ ≤ _; exact Nat.le_of_eq rfl) (hb hby own_d45_19) (fun _ _ => ⟨rfl, e23, (by decide : 1 + 0 ≤ _), (by decide : 3 + 0 ≤ _)⟩)
  dsimp only [Pt.U, Pt.locs, Pt.cells, Pt.slots] at X30 l30 y30 z30 st30 hQ30
  subst l30 y30 z30
  obtain ⟨rfl, N30q, eh30⟩ := hQ30
  have N30 := Fr.app N23 N30q
  refine Good.back st30 ?_
  have fc31 := f_24
  obtain ⟨cl31, Ar31, qk31, S31, N31', H31, G31⟩ := fc31
  have hin31 : ¬ ((2 : Int32) < 0 ∨ cl31.slots.size ≤ ((2 : Int32)).toNatClampNeg) := inb_of S31 ⟨by decide, by decide⟩
  have f_31 : Exa Z h2 x2 "com/example/liken/liken/core/Token" := Exa.ext E2 E_x2
  have f_32 : Exa Z h12 x2 "com/example/liken/liken/core/Token" := Exa.wr W12 f_31
  have f_33 : Exa Z h23 x2 "com/example/liken/liken/core/Token" := Exa.wr W23 f_32
  obtain ⟨T34, h34, X34, e34, W34, st34⟩ := stR X30 hx hZ eh30 Ar31 (j := (2 : Int32)) hin31 rfl (Sto.ofV Ar31 qk31 O2 (Ins.of_exa f_33 (hw _ (own_m 208 rfl)))) (g := (mkF m 22 #[.val (.ref r0), .val (.ref b2), .val (.int (2 : Int32))] [(.ref x2), (.int (2 : Int32)), (.ref b2)])) rfl rfl (hb hby own_d45_22)
  refine Good.back st34 ?_
  have f_35 : Arv Z h34 b2 k2 (.object "java/lang/Object") (3 : Int32) [(.ref x0), (.ref x1), (.ref x2)] .null := Arv.set Ar31 qk31 S31 N31' H31 G31 rfl W34 2 rfl (Nat.le_of_ble_eq_true rfl)
  have N34 := Fr.snoc X34 N30 g_b2
  have Z36 : n0 ≤ h34.size := Nat.le_trans Z25 (Keep.of_wr W34).1
  have K37 : Keep h0 h34 [] := K26.wr W34 (Or.inr sz_b2)
  show Good p e below _ (T34.setTop (mkF m 23 #[.val (.ref r0), .val (.ref b2), .val (.int (2 : Int32))] []))
  refine Good.back (fun _ k => XS.iinc X34.here hx rfl (hb hby own_d45_23) rfl (l' := #[.val (.ref r0), .val (.ref b2), .val (.int ((2 : Int32) + (1 : Int32)))]) rfl k) ?_
  show Good p e below _ (T34.setTop (mkF m 26 #[.val (.ref r0), .val (.ref b2), .val (.int ((2 : Int32) + (1 : Int32)))] []))
  rw [show (((2 : Int32) + (1 : Int32)) : Int32) = (3 : Int32) from by decide]
  show Good p e below _ (T34.setTop (mkF m 26 #[.val (.ref r0), .val (.ref b2), .val (.int (3 : Int32))] []))
  refine Good.back (fun _ k => XS.goto X34.here hx rfl (pc0 := 26) (pc' := 8) rfl (hb hby own_d45_26) (by decide) (by decide) k) ?_
  refine Good.back (fun _ k => XS.iloadN X34.here hx rfl (hb hby own_d45_8) rfl k) ?_
  refine Good.back (fun _ k => XS.aloadN X34.here hx rfl (hb hby own_d45_9) rfl rfl k) ?_
  have f_38 : Arv Z h34 r0 kk (.object "java/lang/Object") (3 : Int32) [(.ref x0), (.ref x1), (.ref x2)] .null := Arv.other f_27 W34 ne_r0_b2_17
  have fc39 := f_38
  obtain ⟨cl39, Ar39, qk39, S39, N39', H39, G39⟩ := fc39
  refine Good.back (X34.arraylength hx (by rw [e34]; exact Ar39.1) (State.isArrayOf_alike hZ.alike Ar39.2.1) (g := (mkF m 10 #[.val (.ref r0), .val (.ref b2), .val (.int (3 : Int32))] [(.ref r0), (.int (3 : Int32))])) rfl rfl (hb hby own_d45_10)) ?_
  rw [len_of S39 N39']
  show Good p e below _ (T34.setTop (mkF m 11 #[.val (.ref r0), .val (.ref b2), .val (.int (3 : Int32))] [(.int (3 : Int32)), (.int (3 : Int32))]))
  refine Good.back (fun _ k => XS.icmpYes X34.here hx rfl (pc0 := 11) (pc' := 29) rfl (hb hby own_d45_11) rfl (flt (by decide : ¬ ((3 : Int32) < (3 : Int32)))).2.1 (by decide) (by decide) k) ?_
  show Good p e below _ (T34.setTop (mkF m 29 #[.val (.ref r0), .val (.ref b2), .val (.int (3 : Int32))] []))
  obtain ⟨T40, h40, X40, e40, E40, A40, D40, -, st40⟩ := newO X34 hx hZ hown (hw _ (own_m 125 rfl)) (hw _ (own_m 290 rfl)) (hw _ (own_m 150 rfl)) e34 (g := (mkF m 29 #[.val (.ref r0), .val (.ref b2), .val (.int (3 : Int32))] [])) rfl (hb hby own_d45_29) (by decide) (by decide)
  obtain ⟨b40, g40⟩ : ∃ z, z = h34.size := ⟨_, rfl⟩
  rw [← g40] at A40 D40 st40
  refine Good.back st40 ?_
  have g_b40 : n0 ≤ b40 := Nat.le_trans Z36 (Nat.le_of_eq g40.symm)
  have sz_b40 : h0.size ≤ b40 := Nat.le_trans K37.1 (Nat.le_of_eq g40.symm)
  have Z41 : n0 ≤ h40.size := Nat.le_trans Z36 E40.1
  have K42 : Keep h0 h40 [] := K37.ext E40
  have f_43 : Exa Z h40 b40 "java/util/ImmutableCollections$ListN" := A40
  have f_44 : Fld Z h40 b40 "java/util/ImmutableCollections$ListN" "elements" "[Ljava/lang/Object;" .null := D40 (Or.inr (hw _ (own_m 153 rfl))) (ty := (.array (.object "java/lang/Object"))) (by decide)
  have f_45 : Fld Z h40 b40 "java/util/ImmutableCollections$ListN" "allowNulls" "Z" (.int (0 : Int32)) := D40 (Or.inr (hw _ (own_m 300 rfl))) (ty := .boolean) (by decide)
  refine Good.back (fun _ k => XS.dup X40.here hx rfl (hb hby own_d45_32) rfl rfl k) ?_
  refine Good.back (fun _ k => XS.aloadN X40.here hx rfl (hb hby own_d45_33) rfl rfl k) ?_
  refine Good.back (fun _ k => XS.iconst X40.here hx rfl (hb hby own_d45_34) k) ?_
  obtain ⟨_, _, ⟨T46, L46, k46, n46⟩, -, X46, ⟨Lc46, hQ46, l46, y46, z46⟩, st46⟩ := X40.specialBackNest hx (y := (⟨"java/util/ImmutableCollections$ListN", "<init>", "([Ljava/lang/Object;Z)V"⟩ : MethodName)) rfl hown (own_mvNM hZ (hw _ (own_m 291 rfl))) (mvT hZ (hw _ (own_m 292 rfl))) (mvT hZ (hw _ (own_m 294 rfl))) (by decide) (backOf (W := 1) (rm46 l Z a0 hw [] b40 b2  h40 n0 Z41 f_43 g_b40 f_44 f_45) hZ (hw _ (own_m 294 rfl)) (hw _ (own_m 150 rfl)) (by decide) (by decide)) (g := (mkF m 35 #[.val (.ref r0), .val (.ref b2), .val (.int (3 : Int32))] [(.int (0 : Int32)), (.ref b2), (.ref b40), (.ref b40)])) rfl (by rw [hml]; rfl) (Steps.refl _) (a := b40) (argsL := [(.ref b2), (.int (0 : Int32))]) (rest := [(.ref b40)]) (lenOf own_pd533 rfl) rfl (by show 2 * 0 + _ ≤ _; exact Nat.le_of_eq rfl) (hb hby own_d45_35) (fun _ _ => ⟨rfl, e40, (by decide : 2 + 0 ≤ _), (by decide : 5 + 0 ≤ _)⟩)
  dsimp only [Pt.U, Pt.locs, Pt.cells, Pt.slots] at X46 l46 y46 z46 st46 hQ46
  subst l46 y46 z46
  obtain ⟨rfl, N46q, Kq46, o46_0⟩ := hQ46
  have N46 := Fr.app N34 N46q
  have Z47 : n0 ≤ T46.heap.size := Nat.le_trans Z41 Kq46.1
  have K48 : Keep h0 T46.heap [] := K42.trans Kq46 (allS (Or.inr sz_b40) all0)
  refine Good.back (fun _ k => st46.trans k) ?_
  show Good p e below _ (T46.setTop (mkF m 38 #[.val (.ref r0), .val (.ref b2), .val (.int (3 : Int32))] [(.ref b40)]))
  obtain ⟨fs49, hr49, hrun49, hended49, hW49, hsame49⟩ := X46.leave (v := some (.ref b40)) (fun h => by rw [Bd.returns] at h; cases h)
  refine Good.done (retOut X46 hx Bd.returns rfl (Or.inr (Or.inr (Or.inr (Or.inr ⟨rfl, rfl, rfl⟩)))) (hb hby own_d45_38) hr49) hrun49 hended49 ⟨_, _, rfl, ?_, ⟨_, rfl⟩, hW49, hsame49.mono (by decide) (by decide)⟩
  show Q45 Z r0 kk x0 x1 x2 h0 n0 _ T46.heap _
  have f_50 : Exa Z T46.heap b40 "java/util/ImmutableCollections$ListN" := Exa.keep f_43 Kq46
  have f_51 : Arv Z h40 b2 k2 (.object "java/lang/Object") (3 : Int32) [(.ref x0), (.ref x1), (.ref x2)] .null := Arv.ext f_35 E40
  have ne_b2_b40_53 : b2 ≠ b40 := Nat.ne_of_lt (Nat.lt_of_lt_of_le f_35.lt (Nat.le_of_eq g40.symm))
  have f_52 : Arv Z T46.heap b2 k2 (.object "java/lang/Object") (3 : Int32) [(.ref x0), (.ref x1), (.ref x2)] .null := Arv.keep f_51 Kq46 (ninS ne_b2_b40_53 nin0)
  exact ⟨b40, b2, k2, rfl, N46, K48, sz_b40, sz_b2, f_50, o46_0, f_52⟩
theorem own_d38_59 : decode jdk_40_method_47_code 59 = .ok (.aload_n 0, 1) := by decide +kernel
theorem own_d38_60 : decode jdk_40_method_47_code 60 = .ok (.invokestatic 109, 3) := by decide +kernel
theorem own_d38_63 : decode jdk_40_method_47_code 63 = .ok (.areturn, 1) := by decide +kernel
theorem own_ef_38_3 (m : MethodId) (x0 : Addr) : entryFrame m #[(.ref x0)] 2 = mkF m 0 #[.val (.ref x0), .unset] [] := by first | (simp [entryFrame, mkF, argsToLocals, Value.category]; done) | rfl
def Q38_3 (Z : State) (r0 : Addr) (kk : ClassId) (x0 : Addr) (x1 : Addr) (x2 : Addr) (h0 : Heap) (n0 : Nat) (v : Option Value) (h : Heap) (L : List Loc) : Prop := ∃ (li : Addr) (ea : Addr) (ke : ClassId), v = some (.ref li) ∧ Fr n0 L ∧ Keep h0 h [] ∧ h0.size ≤ li ∧ h0.size ≤ ea ∧ Exa Z h li "java/util/ImmutableCollections$ListN" ∧ Fld Z h li "java/util/ImmutableCollections$ListN" "elements" "[Ljava/lang/Object;" (.ref ea) ∧ Arv Z h ea ke (.object "java/lang/Object") (3 : Int32) [(.ref x0), (.ref x1), (.ref x2)] .null
set_option maxRecDepth 65536 in
set_option maxHeartbeats 40000000 in
theorem rm38_3 (l : Launch) (Z : State) (a0 : Array Value) (hw : ∀ d ∈ tables_1, d.before a0 Z = true) (ws : List Jvm.Cond) (r0 : Addr) (kk : ClassId) (x0 : Addr) (x1 : Addr) (x2 : Addr) (h0 : Heap) (n0 : Nat) (Z0 : n0 ≤ h0.size) (Va : Arv Z h0 r0 kk (.object "java/lang/Object") (3 : Int32) [(.ref x0), (.ref x1), (.ref x2)] .null) (E_x0 : Exa Z h0 x0 "com/example/liken/liken/core/Token") (E_x1 : Exa Z h0 x1 "com/example/liken/liken/core/Token") (E_x2 : Exa Z h0 x2 "com/example/liken/liken/core/Token") :
    MetFree l (⟨"java/util/List", "of", "([Ljava/lang/Object;)Ljava/util/List;"⟩ : MethodName) (head1 (Jvm.Cond.code (⟨"java/util/List", "of", "([Ljava/lang/Object;)Ljava/util/List;"⟩ : MethodName) jdk_40_method_47_code 2 (some (.object "java/util/List")) :: ws) ({ frames := 6, cells := 2, slots := 5, locals := 77 } : Room)) (fun a U => a = #[(.ref r0)] ∧ Z.Warmed39 U.vm ∧ U.heap = h0) (fun _ _ _ _ _ => True) (fun _ U o U' => ∃ v L, o = .returned v ∧ Q38_3 Z r0 kk x0 x1 x2 h0 n0 v U'.heap L ∧ FrameEnd U o U' L ({ frames := 6, cells := 2, slots := 5, locals := 77 } : Room).cells ({ frames := 6, cells := 2, slots := 5, locals := 77 } : Room).slots) := by
  refine MetFree.of_bodySF (plainFor_of_name own_pn14) hisR ?_
  intro p e s m args below meth c s₁ Bd hml0 hP hK
  obtain ⟨rfl, hZ, hh⟩ := hP
  have hx := Bd.exec
  have hby := Bd.bytes
  have hml : c.maxLocals = 2 := hml0
  have hown : s.vm.findClass "java/util/List" = some m.cls := findClass_of_methodNamed Bd.named
  have hnm := (name_of_methodNamed Bd.named Bd.method).1
  have X0 : Stand p l e ({ frames := 6, cells := 2, slots := 5, locals := 77 } : Room) s m #[(.ref r0)] below meth c s₁ [] 0 0 := Stand.of_body Bd
  have e0 : s₁.heap = h0 := by rw [← hh, Bd.state]; rfl
  have N0 := Fr.nil n0
  have KR : Keep h0 h0 [] := Keep.refl h0 _
  show Good p e below (fun o U' => ∃ v L, o = .returned v ∧ Q38_3 Z r0 kk x0 x1 x2 h0 n0 v U'.heap L ∧ FrameEnd s o U' L ({ frames := 6, cells := 2, slots := 5, locals := 77 } : Room).cells ({ frames := 6, cells := 2, slots := 5, locals := 77 } : Room).slots) _
  refine Good.back (S' := s₁.setTop (mkF m 0 #[.val (.ref r0), .unset] [])) (fun t k => castTop (own_ef_38_3 m r0) k) ?_
  show Good p e below _ (s₁.setTop (mkF m 0 #[.val (.ref r0), .unset] []))
  refine Good.back (fun _ k => XS.aloadN X0.here hx rfl (hb hby own_d38_0) rfl rfl k) ?_
  have fc1 := Va
  obtain ⟨cl1, Ar1, qk1, S1, N1', H1, G1⟩ := fc1
  refine Good.back (X0.arraylength hx (by rw [e0]; exact Ar1.1) (State.isArrayOf_alike hZ.alike Ar1.2.1) (g := (mkF m 1 #[.val (.ref r0), .unset] [(.ref r0)])) rfl rfl (hb hby own_d38_1)) ?_
  rw [len_of S1 N1']
  show Good p e below _ (s₁.setTop (mkF m 2 #[.val (.ref r0), .unset] [(.int (3 : Int32))]))
  refine Good.back (fun _ k => XS.tswOut X0.here hx rfl (pc0 := 2) (pc' := 59) rfl (hb hby own_d38_2) rfl (by decide) (by decide) (by decide) k) ?_
  show Good p e below _ (s₁.setTop (mkF m 59 #[.val (.ref r0), .unset] []))
  refine Good.back (fun _ k => XS.aloadN X0.here hx rfl (hb hby own_d38_59) rfl rfl k) ?_
  obtain ⟨_, _, ⟨T2, L2, k2, n2⟩, -, X2, ⟨Lc2, hQ2, l2, y2, z2⟩, st2⟩ := Jvm.LawKit.callS X0 hx (y := (⟨"java/util/ImmutableCollections", "listFromArray", "([Ljava/lang/Object;)Ljava/util/List;"⟩ : MethodName)) hown (mvT hZ (hw _ (own_m 285 rfl))) (mvT hZ (hw _ (own_m 286 rfl))) (mvT hZ (hw _ (own_m 122 rfl))) (mvT hZ (hw _ (own_m 287 rfl))) (by decide) (backOf (W := 0) (rm45 l Z a0 hw [] r0 kk x0 x1 x2 h0 n0 Z0 Va E_x0 E_x1 E_x2) hZ (hw _ (own_m 287 rfl)) (hw _ (own_m 122 rfl)) (by decide) (by decide)) (g := (mkF m 60 #[.val (.ref r0), .unset] [(.ref r0)])) rfl (by rw [hml]; rfl) (argsL := [(.ref r0)]) (rest := []) (lenOf own_pd492 rfl) rfl (by show 2 * 0 + _ ≤ _; exact Nat.le_of_eq rfl) (hb hby own_d38_60) (fun _ _ => ⟨rfl, e0, (by decide : 0 + 2 ≤ _), (by decide : 0 + 5 ≤ _)⟩)
  dsimp only [Pt.U, Pt.locs, Pt.cells, Pt.slots] at X2 l2 y2 z2 st2 hQ2
  subst l2 y2 z2
  obtain ⟨li_2, ea_2, ke_2, rfl, N2q, Kq2, o2_0, o2_1, o2_2, o2_3, o2_4⟩ := hQ2
  have N2 := Fr.app N0 N2q
  have Z3 : n0 ≤ T2.heap.size := Nat.le_trans Z0 Kq2.1
  have K4 : Keep h0 T2.heap [] := KR.trans Kq2 all0
  have g_li_2 : n0 ≤ li_2 := Nat.le_trans Z0 o2_0
  have sz_li_2 : h0.size ≤ li_2 := Nat.le_trans KR.1 o2_0
  have g_ea_2 : n0 ≤ ea_2 := Nat.le_trans Z0 o2_1
  have sz_ea_2 : h0.size ≤ ea_2 := Nat.le_trans KR.1 o2_1
  refine Good.back st2 ?_
  show Good p e below _ (T2.setTop (mkF m 63 #[.val (.ref r0), .unset] [(.ref li_2)]))
  obtain ⟨fs5, hr5, hrun5, hended5, hW5, hsame5⟩ := X2.leave (v := some (.ref li_2)) (fun h => by rw [Bd.returns] at h; cases h)
  refine Good.done (retOut X2 hx Bd.returns rfl (Or.inr (Or.inr (Or.inr (Or.inr ⟨rfl, rfl, rfl⟩)))) (hb hby own_d38_63) hr5) hrun5 hended5 ⟨_, _, rfl, ?_, ⟨_, rfl⟩, hW5, hsame5.mono (by decide) (by decide)⟩
  show Q38_3 Z r0 kk x0 x1 x2 h0 n0 _ T2.heap _
  exact ⟨li_2, ea_2, ke_2, rfl, N2, K4, sz_li_2, sz_ea_2, o2_2, o2_3, o2_4⟩
theorem own_ef_21_3 (m : MethodId) (x0 : Addr) : entryFrame m #[(.ref x0)] 2 = mkF m 0 #[.val (.ref x0), .unset] [] := by first | (simp [entryFrame, mkF, argsToLocals, Value.category]; done) | rfl
def Q21_3 (Z : State) (r0 : Addr) (ar : Addr) (kk : ClassId) (mr : Addr) (x0 : Addr) (x1 : Addr) (x2 : Addr) (h0 : Heap) (n0 : Nat) (v : Option Value) (h : Heap) (L : List Loc) : Prop := ∃ (li : Addr) (ea : Addr) (ke : ClassId), v = some (.ref li) ∧ Fr n0 L ∧ Keep h0 h [] ∧ h0.size ≤ li ∧ h0.size ≤ ea ∧ Exa Z h li "java/util/ImmutableCollections$ListN" ∧ Fld Z h li "java/util/ImmutableCollections$ListN" "elements" "[Ljava/lang/Object;" (.ref ea) ∧ Arv Z h ea ke (.object "java/lang/Object") (3 : Int32) [(.ref x0), (.ref x1), (.ref x2)] .null
set_option maxRecDepth 65536 in
set_option maxHeartbeats 40000000 in
theorem rm21_3 (l : Launch) (Z : State) (a0 : Array Value) (hw : ∀ d ∈ tables_1, d.before a0 Z = true) (ws : List Jvm.Cond) (r0 : Addr) (ar : Addr) (kk : ClassId) (mr : Addr) (x0 : Addr) (x1 : Addr) (x2 : Addr) (h0 : Heap) (n0 : Nat) (Z0 : n0 ≤ h0.size) (E0 : Exa Z h0 r0 "java/util/ArrayList") (Fe : Fld Z h0 r0 "java/util/ArrayList" "elementData" "[Ljava/lang/Object;" (.ref ar)) (Fs : Fld Z h0 r0 "java/util/ArrayList" "size" "I" (.int (3 : Int32))) (Ea : Exa Z h0 ar "[Ljava/lang/Object;") (Va : Arv Z h0 ar kk (.object "java/lang/Object") (10 : Int32) [(.ref x0), (.ref x1), (.ref x2), .null, .null, .null, .null, .null, .null, .null] .null) (hmir : Mir Z "[Ljava/lang/Object;" mr) (E_x0 : Exa Z h0 x0 "com/example/liken/liken/core/Token") (E_x1 : Exa Z h0 x1 "com/example/liken/liken/core/Token") (E_x2 : Exa Z h0 x2 "com/example/liken/liken/core/Token") :
    MetFree l (⟨"java/util/ImmutableCollections", "listCopy", "(Ljava/util/Collection;)Ljava/util/List;"⟩ : MethodName) (head1 (Jvm.Cond.code (⟨"java/util/ImmutableCollections", "listCopy", "(Ljava/util/Collection;)Ljava/util/List;"⟩ : MethodName) jdk_56_method_3_code 2 (some (.object "java/util/List")) :: ws) ({ frames := 7, cells := 3, slots := 8, locals := 90 } : Room)) (fun a U => a = #[(.ref r0)] ∧ Z.Warmed39 U.vm ∧ U.heap = h0) (fun _ _ _ _ _ => True) (fun _ U o U' => ∃ v L, o = .returned v ∧ Q21_3 Z r0 ar kk mr x0 x1 x2 h0 n0 v U'.heap L ∧ FrameEnd U o U' L ({ frames := 7, cells := 3, slots := 8, locals := 90 } : Room).cells ({ frames := 7, cells := 3, slots := 8, locals := 90 } : Room).slots) := by
  refine MetFree.of_bodySF (plainFor_of_name own_pn18) hisR ?_
  intro p e s m args below meth c s₁ Bd hml0 hP hK
  obtain ⟨rfl, hZ, hh⟩ := hP
  have hx := Bd.exec
  have hby := Bd.bytes
  have hml : c.maxLocals = 2 := hml0
  have hown : s.vm.findClass "java/util/ImmutableCollections" = some m.cls := findClass_of_methodNamed Bd.named
  have hnm := (name_of_methodNamed Bd.named Bd.method).1
  have X0 : Stand p l e ({ frames := 7, cells := 3, slots := 8, locals := 90 } : Room) s m #[(.ref r0)] below meth c s₁ [] 0 0 := Stand.of_body Bd
  have e0 : s₁.heap = h0 := by rw [← hh, Bd.state]; rfl
  have N0 := Fr.nil n0
  have KR : Keep h0 h0 [] := Keep.refl h0 _
  show Good p e below (fun o U' => ∃ v L, o = .returned v ∧ Q21_3 Z r0 ar kk mr x0 x1 x2 h0 n0 v U'.heap L ∧ FrameEnd s o U' L ({ frames := 7, cells := 3, slots := 8, locals := 90 } : Room).cells ({ frames := 7, cells := 3, slots := 8, locals := 90 } : Room).slots) _
  refine Good.back (S' := s₁.setTop (mkF m 0 #[.val (.ref r0), .unset] [])) (fun t k => castTop (own_ef_21_3 m r0) k) ?_
  show Good p e below _ (s₁.setTop (mkF m 0 #[.val (.ref r0), .unset] []))
  refine Good.back (fun _ k => XS.aloadN X0.here hx rfl (hb hby own_d21_0) rfl rfl k) ?_
  obtain ⟨T1, X1, e1, st1⟩ := instNo X0 hx hZ hown (hw _ (own_m 124 rfl)) e0 E0 (own_nsNo (hw _ (own_m 109 rfl)) (hw _ (own_m 243 rfl)) (NS.step (hw _ (own_m 109 rfl)) (NS.step (hw _ (own_m 110 rfl)) (NS.step (hw _ (own_m 111 rfl)) (own_nsRoot (hw _ (own_m 112 rfl)) (hw _ (own_m 243 rfl)) (by decide)) (by decide)) (by decide)) (by decide)) (by decide)) (g := (mkF m 1 #[.val (.ref r0), .unset] [(.ref r0)])) rfl rfl (hb hby own_d21_1)
  refine Good.back st1 ?_
  show Good p e below _ (T1.setTop (mkF m 4 #[.val (.ref r0), .unset] [(.int (0 : Int32))]))
  refine Good.back (fun _ k => XS.ifNo X1.here hx rfl (hb hby own_d21_4) rfl ((if0 _ _).trans (teq (by decide : ((0 : Int32) = (0 : Int32)))).2) k) ?_
  show Good p e below _ (T1.setTop (mkF m 7 #[.val (.ref r0), .unset] []))
  refine Good.back (fun _ k => XS.aloadN X1.here hx rfl (hb hby own_d21_7) rfl rfl k) ?_
  obtain ⟨T2, X2, e2, st2⟩ := instNo X1 hx hZ hown (hw _ (own_m 125 rfl)) e1 E0 (own_nsNo (hw _ (own_m 109 rfl)) (hw _ (own_m 290 rfl)) (NS.step (hw _ (own_m 109 rfl)) (NS.step (hw _ (own_m 110 rfl)) (NS.step (hw _ (own_m 111 rfl)) (own_nsRoot (hw _ (own_m 112 rfl)) (hw _ (own_m 290 rfl)) (by decide)) (by decide)) (by decide)) (by decide)) (by decide)) (g := (mkF m 8 #[.val (.ref r0), .unset] [(.ref r0)])) rfl rfl (hb hby own_d21_8)
  refine Good.back st2 ?_
  show Good p e below _ (T2.setTop (mkF m 11 #[.val (.ref r0), .unset] [(.int (0 : Int32))]))
  refine Good.back (fun _ k => XS.ifYes X2.here hx rfl (pc0 := 11) (pc' := 31) rfl (hb hby own_d21_11) rfl ((if0 _ _).trans (teq (by decide : ((0 : Int32) = (0 : Int32)))).1) (by decide) (by decide) k) ?_
  show Good p e below _ (T2.setTop (mkF m 31 #[.val (.ref r0), .unset] []))
  refine Good.back (fun _ k => XS.aloadN X2.here hx rfl (hb hby own_d21_31) rfl rfl k) ?_
  obtain ⟨cq3, kq3, q3a, q3b, q3c⟩ := isOf hZ e2 E0
  obtain ⟨_, _, ⟨T3, L3, k3, n3⟩, -, X3, ⟨Lc3, hQ3, l3, y3, z3⟩, st3⟩ := X2.interfaceBack hx (xi := (⟨"java/util/Collection", "isEmpty", "()Z"⟩ : MethodName)) (y := (⟨"java/util/ArrayList", "isEmpty", "()Z"⟩ : MethodName)) hown (mvT hZ (hw _ (own_m 126 rfl))) (mvT hZ (hw _ (own_m 127 rfl))) (mvT hZ (hw _ (own_m 128 rfl))) (mvT hZ (hw _ (own_m 129 rfl))) (mvT hZ (hw _ (own_m 130 rfl))) (mvT hZ (hw _ (own_m 131 rfl))) (mvT hZ (hw _ (own_m 132 rfl))) (mvT hZ (hw _ (own_m 133 rfl))) (by decide) (backOf (W := 0) (rm22_3 l Z a0 hw [] r0  h0 n0 Z0 Fs) hZ (hw _ (own_m 134 rfl)) (hw _ (own_m 82 rfl)) (by decide) (by decide)) q3a q3b q3c (g := (mkF m 32 #[.val (.ref r0), .unset] [(.ref r0)])) rfl (by rw [hml]; rfl) (Steps.refl _) (argsL := []) (rest := []) (lenOf own_pd491 rfl) rfl (by show 2 * 0 + _ ≤ _; exact Nat.le_of_eq rfl) (hb hby own_d21_32) (fun _ _ => ⟨rfl, e2, (by decide : 0 + 0 ≤ _), (by decide : 0 + 0 ≤ _)⟩)
  dsimp only [Pt.U, Pt.locs, Pt.cells, Pt.slots] at X3 l3 y3 z3 st3 hQ3
  subst l3 y3 z3
  obtain ⟨rfl, N3q, eh3⟩ := hQ3
  have N3 := Fr.app N0 N3q
  refine Good.back (fun _ k => st3.trans k) ?_
  show Good p e below _ (T3.setTop (mkF m 37 #[.val (.ref r0), .unset] [(.int (0 : Int32))]))
  refine Good.back (fun _ k => XS.ifYes X3.here hx rfl (pc0 := 37) (pc' := 44) rfl (hb hby own_d21_37) rfl ((if0 _ _).trans (teq (by decide : ((0 : Int32) = (0 : Int32)))).1) (by decide) (by decide) k) ?_
  show Good p e below _ (T3.setTop (mkF m 44 #[.val (.ref r0), .unset] []))
  refine Good.back (fun _ k => XS.aloadN X3.here hx rfl (hb hby own_d21_44) rfl rfl k) ?_
  obtain ⟨cq4, kq4, q4a, q4b, q4c⟩ := isOf hZ eh3 E0
  obtain ⟨_, _, ⟨T4, L4, k4, n4⟩, -, X4, ⟨Lc4, hQ4, l4, y4, z4⟩, st4⟩ := X3.interfaceBack hx (xi := (⟨"java/util/Collection", "toArray", "()[Ljava/lang/Object;"⟩ : MethodName)) (y := (⟨"java/util/ArrayList", "toArray", "()[Ljava/lang/Object;"⟩ : MethodName)) hown (mvT hZ (hw _ (own_m 209 rfl))) (mvT hZ (hw _ (own_m 210 rfl))) (mvT hZ (hw _ (own_m 211 rfl))) (mvT hZ (hw _ (own_m 212 rfl))) (mvT hZ (hw _ (own_m 213 rfl))) (mvT hZ (hw _ (own_m 214 rfl))) (mvT hZ (hw _ (own_m 215 rfl))) (mvT hZ (hw _ (own_m 133 rfl))) (by decide) (backOf (W := 0) (rm34_3 l Z a0 hw [] r0 ar kk mr x0 x1 x2 h0 n0 Z0 Fe Fs Ea Va (by first | assumption | decide) E_x0 E_x1 E_x2) hZ (hw _ (own_m 216 rfl)) (hw _ (own_m 82 rfl)) (by decide) (by decide)) q4a q4b q4c (g := (mkF m 45 #[.val (.ref r0), .unset] [(.ref r0)])) rfl (by rw [hml]; rfl) (Steps.refl _) (argsL := []) (rest := []) (lenOf own_pd276 rfl) rfl (by show 2 * 0 + _ ≤ _; exact Nat.le_of_eq rfl) (hb hby own_d21_45) (fun _ _ => ⟨rfl, eh3, (by decide : 0 + 1 ≤ _), (by decide : 0 + 3 ≤ _)⟩)
  dsimp only [Pt.U, Pt.locs, Pt.cells, Pt.slots] at X4 l4 y4 z4 st4 hQ4
  subst l4 y4 z4
  obtain ⟨cp_4, kc_4, rfl, N4q, Kq4, o4_0, o4_1, o4_2, o4_3⟩ := hQ4
  have N4 := Fr.app N3 N4q
  have Z5 : n0 ≤ T4.heap.size := Nat.le_trans Z0 Kq4.1
  have K6 : Keep h0 T4.heap [] := KR.trans Kq4 all0
  have g_cp_4 : n0 ≤ cp_4 := Nat.le_trans Z0 o4_0
  have sz_cp_4 : h0.size ≤ cp_4 := Nat.le_trans KR.1 o4_0
  refine Good.back (fun _ k => st4.trans k) ?_
  have f_8 : Exa Z T4.heap x0 "com/example/liken/liken/core/Token" := Exa.keep E_x0 Kq4
  have f_9 : Exa Z T4.heap x1 "com/example/liken/liken/core/Token" := Exa.keep E_x1 Kq4
  have f_10 : Exa Z T4.heap x2 "com/example/liken/liken/core/Token" := Exa.keep E_x2 Kq4
  obtain ⟨_, _, ⟨T7, L7, k7, n7⟩, -, X7, ⟨Lc7, hQ7, l7, y7, z7⟩, st7⟩ := Jvm.LawKit.callS X4 hx (y := (⟨"java/util/List", "of", "([Ljava/lang/Object;)Ljava/util/List;"⟩ : MethodName)) hown (mvT hZ (hw _ (own_m 239 rfl))) (mvT hZ (hw _ (own_m 240 rfl))) (mvT hZ (hw _ (own_m 118 rfl))) (mvT hZ (hw _ (own_m 241 rfl))) (by decide) (backOf (W := 0) (rm38_3 l Z a0 hw [] cp_4 kc_4 x0 x1 x2 T4.heap n0 Z5 o4_2 f_8 f_9 f_10) hZ (hw _ (own_m 241 rfl)) (hw _ (own_m 118 rfl)) (by decide) (by decide)) (g := (mkF m 50 #[.val (.ref r0), .unset] [(.ref cp_4)])) rfl (by rw [hml]; rfl) (argsL := [(.ref cp_4)]) (rest := []) (lenOf own_pd492 rfl) rfl (by show 2 * 0 + _ ≤ _; exact Nat.le_of_eq rfl) (hb hby own_d21_50) (fun _ _ => ⟨rfl, rfl, (by decide : 1 + 2 ≤ _), (by decide : 3 + 5 ≤ _)⟩)
  dsimp only [Pt.U, Pt.locs, Pt.cells, Pt.slots] at X7 l7 y7 z7 st7 hQ7
  subst l7 y7 z7
  obtain ⟨li_7, ea_7, ke_7, rfl, N7q, Kq7, o7_0, o7_1, o7_2, o7_3, o7_4⟩ := hQ7
  have N7 := Fr.app N4 N7q
  have Z11 : n0 ≤ T7.heap.size := Nat.le_trans Z5 Kq7.1
  have K12 : Keep h0 T7.heap [] := K6.trans Kq7 all0
  have g_li_7 : n0 ≤ li_7 := Nat.le_trans Z5 o7_0
  have sz_li_7 : h0.size ≤ li_7 := Nat.le_trans K6.1 o7_0
  have g_ea_7 : n0 ≤ ea_7 := Nat.le_trans Z5 o7_1
  have sz_ea_7 : h0.size ≤ ea_7 := Nat.le_trans K6.1 o7_1
  refine Good.back st7 ?_
  show Good p e below _ (T7.setTop (mkF m 53 #[.val (.ref r0), .unset] [(.ref li_7)]))
  obtain ⟨fs13, hr13, hrun13, hended13, hW13, hsame13⟩ := X7.leave (v := some (.ref li_7)) (fun h => by rw [Bd.returns] at h; cases h)
  refine Good.done (retOut X7 hx Bd.returns rfl (Or.inr (Or.inr (Or.inr (Or.inr ⟨rfl, rfl, rfl⟩)))) (hb hby own_d21_53) hr13) hrun13 hended13 ⟨_, _, rfl, ?_, ⟨_, rfl⟩, hW13, hsame13.mono (by decide) (by decide)⟩
  show Q21_3 Z r0 ar kk mr x0 x1 x2 h0 n0 _ T7.heap _
  exact ⟨li_7, ea_7, ke_7, rfl, N7, K12, sz_li_7, sz_ea_7, o7_2, o7_3, o7_4⟩
theorem own_ef_20_3 (m : MethodId) (x0 : Addr) : entryFrame m #[(.ref x0)] 1 = mkF m 0 #[.val (.ref x0)] [] := by first | (simp [entryFrame, mkF, argsToLocals, Value.category]; done) | rfl
def Q20_3 (Z : State) (r0 : Addr) (ar : Addr) (kk : ClassId) (mr : Addr) (x0 : Addr) (x1 : Addr) (x2 : Addr) (h0 : Heap) (n0 : Nat) (v : Option Value) (h : Heap) (L : List Loc) : Prop := ∃ (li : Addr) (ea : Addr) (ke : ClassId), v = some (.ref li) ∧ Fr n0 L ∧ Keep h0 h [] ∧ h0.size ≤ li ∧ h0.size ≤ ea ∧ Exa Z h li "java/util/ImmutableCollections$ListN" ∧ Fld Z h li "java/util/ImmutableCollections$ListN" "elements" "[Ljava/lang/Object;" (.ref ea) ∧ Arv Z h ea ke (.object "java/lang/Object") (3 : Int32) [(.ref x0), (.ref x1), (.ref x2)] .null
set_option maxRecDepth 65536 in
set_option maxHeartbeats 40000000 in
theorem rm20_3 (l : Launch) (Z : State) (a0 : Array Value) (hw : ∀ d ∈ tables_1, d.before a0 Z = true) (ws : List Jvm.Cond) (r0 : Addr) (ar : Addr) (kk : ClassId) (mr : Addr) (x0 : Addr) (x1 : Addr) (x2 : Addr) (h0 : Heap) (n0 : Nat) (Z0 : n0 ≤ h0.size) (E0 : Exa Z h0 r0 "java/util/ArrayList") (Fe : Fld Z h0 r0 "java/util/ArrayList" "elementData" "[Ljava/lang/Object;" (.ref ar)) (Fs : Fld Z h0 r0 "java/util/ArrayList" "size" "I" (.int (3 : Int32))) (Ea : Exa Z h0 ar "[Ljava/lang/Object;") (Va : Arv Z h0 ar kk (.object "java/lang/Object") (10 : Int32) [(.ref x0), (.ref x1), (.ref x2), .null, .null, .null, .null, .null, .null, .null] .null) (hmir : Mir Z "[Ljava/lang/Object;" mr) (E_x0 : Exa Z h0 x0 "com/example/liken/liken/core/Token") (E_x1 : Exa Z h0 x1 "com/example/liken/liken/core/Token") (E_x2 : Exa Z h0 x2 "com/example/liken/liken/core/Token") :
    MetFree l (⟨"java/util/List", "copyOf", "(Ljava/util/Collection;)Ljava/util/List;"⟩ : MethodName) (head1 (Jvm.Cond.code (⟨"java/util/List", "copyOf", "(Ljava/util/Collection;)Ljava/util/List;"⟩ : MethodName) jdk_40_method_48_code 1 (some (.object "java/util/List")) :: ws) ({ frames := 8, cells := 3, slots := 8, locals := 103 } : Room)) (fun a U => a = #[(.ref r0)] ∧ Z.Warmed39 U.vm ∧ U.heap = h0) (fun _ _ _ _ _ => True) (fun _ U o U' => ∃ v L, o = .returned v ∧ Q20_3 Z r0 ar kk mr x0 x1 x2 h0 n0 v U'.heap L ∧ FrameEnd U o U' L ({ frames := 8, cells := 3, slots := 8, locals := 103 } : Room).cells ({ frames := 8, cells := 3, slots := 8, locals := 103 } : Room).slots) := by
  refine MetFree.of_bodySF (plainFor_of_name own_pn14) hisR ?_
  intro p e s m args below meth c s₁ Bd hml0 hP hK
  obtain ⟨rfl, hZ, hh⟩ := hP
  have hx := Bd.exec
  have hby := Bd.bytes
  have hml : c.maxLocals = 1 := hml0
  have hown : s.vm.findClass "java/util/List" = some m.cls := findClass_of_methodNamed Bd.named
  have hnm := (name_of_methodNamed Bd.named Bd.method).1
  have X0 : Stand p l e ({ frames := 8, cells := 3, slots := 8, locals := 103 } : Room) s m #[(.ref r0)] below meth c s₁ [] 0 0 := Stand.of_body Bd
  have e0 : s₁.heap = h0 := by rw [← hh, Bd.state]; rfl
  have N0 := Fr.nil n0
  have KR : Keep h0 h0 [] := Keep.refl h0 _
  show Good p e below (fun o U' => ∃ v L, o = .returned v ∧ Q20_3 Z r0 ar kk mr x0 x1 x2 h0 n0 v U'.heap L ∧ FrameEnd s o U' L ({ frames := 8, cells := 3, slots := 8, locals := 103 } : Room).cells ({ frames := 8, cells := 3, slots := 8, locals := 103 } : Room).slots) _
  refine Good.back (S' := s₁.setTop (mkF m 0 #[.val (.ref r0)] [])) (fun t k => castTop (own_ef_20_3 m r0) k) ?_
  show Good p e below _ (s₁.setTop (mkF m 0 #[.val (.ref r0)] []))
  refine Good.back (fun _ k => XS.aloadN X0.here hx rfl (hb hby own_d20_0) rfl rfl k) ?_
  obtain ⟨_, _, ⟨T1, L1, k1, n1⟩, -, X1, ⟨Lc1, hQ1, l1, y1, z1⟩, st1⟩ := Jvm.LawKit.callS X0 hx (y := (⟨"java/util/ImmutableCollections", "listCopy", "(Ljava/util/Collection;)Ljava/util/List;"⟩ : MethodName)) hown (mvT hZ (hw _ (own_m 120 rfl))) (mvT hZ (hw _ (own_m 121 rfl))) (mvT hZ (hw _ (own_m 122 rfl))) (mvT hZ (hw _ (own_m 123 rfl))) (by decide) (backOf (W := 0) (rm21_3 l Z a0 hw [] r0 ar kk mr x0 x1 x2 h0 n0 Z0 E0 Fe Fs Ea Va (by first | assumption | decide) E_x0 E_x1 E_x2) hZ (hw _ (own_m 123 rfl)) (hw _ (own_m 122 rfl)) (by decide) (by decide)) (g := (mkF m 1 #[.val (.ref r0)] [(.ref r0)])) rfl (by rw [hml]; rfl) (argsL := [(.ref r0)]) (rest := []) (lenOf own_pd506 rfl) rfl (by show 2 * 0 + _ ≤ _; exact Nat.le_of_eq rfl) (hb hby own_d20_1) (fun _ _ => ⟨rfl, e0, (by decide : 0 + 3 ≤ _), (by decide : 0 + 8 ≤ _)⟩)
  dsimp only [Pt.U, Pt.locs, Pt.cells, Pt.slots] at X1 l1 y1 z1 st1 hQ1
  subst l1 y1 z1
  obtain ⟨li_1, ea_1, ke_1, rfl, N1q, Kq1, o1_0, o1_1, o1_2, o1_3, o1_4⟩ := hQ1
  have N1 := Fr.app N0 N1q
  have Z2 : n0 ≤ T1.heap.size := Nat.le_trans Z0 Kq1.1
  have K3 : Keep h0 T1.heap [] := KR.trans Kq1 all0
  have g_li_1 : n0 ≤ li_1 := Nat.le_trans Z0 o1_0
  have sz_li_1 : h0.size ≤ li_1 := Nat.le_trans KR.1 o1_0
  have g_ea_1 : n0 ≤ ea_1 := Nat.le_trans Z0 o1_1
  have sz_ea_1 : h0.size ≤ ea_1 := Nat.le_trans KR.1 o1_1
  refine Good.back st1 ?_
  show Good p e below _ (T1.setTop (mkF m 4 #[.val (.ref r0)] [(.ref li_1)]))
  obtain ⟨fs4, hr4, hrun4, hended4, hW4, hsame4⟩ := X1.leave (v := some (.ref li_1)) (fun h => by rw [Bd.returns] at h; cases h)
  refine Good.done (retOut X1 hx Bd.returns rfl (Or.inr (Or.inr (Or.inr (Or.inr ⟨rfl, rfl, rfl⟩)))) (hb hby own_d20_4) hr4) hrun4 hended4 ⟨_, _, rfl, ?_, ⟨_, rfl⟩, hW4, hsame4.mono (by decide) (by decide)⟩
  show Q20_3 Z r0 ar kk mr x0 x1 x2 h0 n0 _ T1.heap _
  exact ⟨li_1, ea_1, ke_1, rfl, N1, K3, sz_li_1, sz_ea_1, o1_2, o1_3, o1_4⟩
theorem own_ef_19_3 (m : MethodId) (x0 : Addr) : entryFrame m #[(.ref x0)] 2 = mkF m 0 #[.val (.ref x0), .unset] [] := by first | (simp [entryFrame, mkF, argsToLocals, Value.category]; done) | rfl
def Q19_3 (Z : State) (r0 : Addr) (ar : Addr) (kk : ClassId) (mr : Addr) (x0 : Addr) (x1 : Addr) (x2 : Addr) (h0 : Heap) (n0 : Nat) (v : Option Value) (h : Heap) (L : List Loc) : Prop := ∃ (ts : Addr) (li : Addr) (ea : Addr) (ke : ClassId), v = some (.ref ts) ∧ Fr n0 L ∧ Keep h0 h [] ∧ h0.size ≤ ts ∧ Exa Z h ts "com/example/liken/liken/core/TokenSlice" ∧ Fld Z h ts "com/example/liken/liken/core/TokenSlice" "all" "Ljava/util/List;" (.ref li) ∧ Fld Z h ts "com/example/liken/liken/core/TokenSlice" "from" "I" (.int (0 : Int32)) ∧ Fld Z h ts "com/example/liken/liken/core/TokenSlice" "size" "I" (.int (3 : Int32)) ∧ h0.size ≤ li ∧ h0.size ≤ ea ∧ Exa Z h li "java/util/ImmutableCollections$ListN" ∧ Fld Z h li "java/util/ImmutableCollections$ListN" "elements" "[Ljava/lang/Object;" (.ref ea) ∧ Arv Z h ea ke (.object "java/lang/Object") (3 : Int32) [(.ref x0), (.ref x1), (.ref x2)] .null
set_option maxRecDepth 65536 in
set_option maxHeartbeats 40000000 in
theorem rm19_3 (l : Launch) (Z : State) (a0 : Array Value) (hw : ∀ d ∈ tables_1, d.before a0 Z = true) (ws : List Jvm.Cond) (r0 : Addr) (ar : Addr) (kk : ClassId) (mr : Addr) (x0 : Addr) (x1 : Addr) (x2 : Addr) (h0 : Heap) (n0 : Nat) (Z0 : n0 ≤ h0.size) (E0 : Exa Z h0 r0 "java/util/ArrayList") (Fe : Fld Z h0 r0 "java/util/ArrayList" "elementData" "[Ljava/lang/Object;" (.ref ar)) (Fs : Fld Z h0 r0 "java/util/ArrayList" "size" "I" (.int (3 : Int32))) (Ea : Exa Z h0 ar "[Ljava/lang/Object;") (Va : Arv Z h0 ar kk (.object "java/lang/Object") (10 : Int32) [(.ref x0), (.ref x1), (.ref x2), .null, .null, .null, .null, .null, .null, .null] .null) (hmir : Mir Z "[Ljava/lang/Object;" mr) (E_x0 : Exa Z h0 x0 "com/example/liken/liken/core/Token") (E_x1 : Exa Z h0 x1 "com/example/liken/liken/core/Token") (E_x2 : Exa Z h0 x2 "com/example/liken/liken/core/Token") :
    MetFree l (⟨"com/example/liken/liken/core/TokenSlice", "of", "(Ljava/util/List;)Lcom/example/liken/liken/core/TokenSlice;"⟩ : MethodName) (head1 (Jvm.Cond.code (⟨"com/example/liken/liken/core/TokenSlice", "of", "(Ljava/util/List;)Lcom/example/liken/liken/core/TokenSlice;"⟩ : MethodName) prog_45_method_2_code 2 (some (.object "com/example/liken/liken/core/TokenSlice")) :: ws) ({ frames := 9, cells := 4, slots := 12, locals := 115 } : Room)) (fun a U => a = #[(.ref r0)] ∧ Z.Warmed39 U.vm ∧ U.heap = h0) (fun _ _ _ _ _ => True) (fun _ U o U' => ∃ v L, o = .returned v ∧ Q19_3 Z r0 ar kk mr x0 x1 x2 h0 n0 v U'.heap L ∧ FrameEnd U o U' L ({ frames := 9, cells := 4, slots := 12, locals := 115 } : Room).cells ({ frames := 9, cells := 4, slots := 12, locals := 115 } : Room).slots) := by
  refine MetFree.of_bodySF (plainFor_of_name own_pn12) hisR ?_
  intro p e s m args below meth c s₁ Bd hml0 hP hK
  obtain ⟨rfl, hZ, hh⟩ := hP
  have hx := Bd.exec
  have hby := Bd.bytes
  have hml : c.maxLocals = 2 := hml0
  have hown : s.vm.findClass "com/example/liken/liken/core/TokenSlice" = some m.cls := findClass_of_methodNamed Bd.named
  have hnm := (name_of_methodNamed Bd.named Bd.method).1
  have X0 : Stand p l e ({ frames := 9, cells := 4, slots := 12, locals := 115 } : Room) s m #[(.ref r0)] below meth c s₁ [] 0 0 := Stand.of_body Bd
  have e0 : s₁.heap = h0 := by rw [← hh, Bd.state]; rfl
  have N0 := Fr.nil n0
  have KR : Keep h0 h0 [] := Keep.refl h0 _
  show Good p e below (fun o U' => ∃ v L, o = .returned v ∧ Q19_3 Z r0 ar kk mr x0 x1 x2 h0 n0 v U'.heap L ∧ FrameEnd s o U' L ({ frames := 9, cells := 4, slots := 12, locals := 115 } : Room).cells ({ frames := 9, cells := 4, slots := 12, locals := 115 } : Room).slots) _
  refine Good.back (S' := s₁.setTop (mkF m 0 #[.val (.ref r0), .unset] [])) (fun t k => castTop (own_ef_19_3 m r0) k) ?_
  show Good p e below _ (s₁.setTop (mkF m 0 #[.val (.ref r0), .unset] []))
  refine Good.back (fun _ k => XS.aloadN X0.here hx rfl (hb hby own_d19_0) rfl rfl k) ?_
  obtain ⟨_, _, ⟨T1, L1, k1, n1⟩, -, X1, ⟨Lc1, hQ1, l1, y1, z1⟩, st1⟩ := Jvm.LawKit.callS X0 hx (y := (⟨"java/util/List", "copyOf", "(Ljava/util/Collection;)Ljava/util/List;"⟩ : MethodName)) hown (mvT hZ (hw _ (own_m 116 rfl))) (mvT hZ (hw _ (own_m 117 rfl))) (mvT hZ (hw _ (own_m 118 rfl))) (mvT hZ (hw _ (own_m 119 rfl))) (by decide) (backOf (W := 0) (rm20_3 l Z a0 hw [] r0 ar kk mr x0 x1 x2 h0 n0 Z0 E0 Fe Fs Ea Va (by first | assumption | decide) E_x0 E_x1 E_x2) hZ (hw _ (own_m 119 rfl)) (hw _ (own_m 118 rfl)) (by decide) (by decide)) (g := (mkF m 1 #[.val (.ref r0), .unset] [(.ref r0)])) rfl (by rw [hml]; rfl) (argsL := [(.ref r0)]) (rest := []) (lenOf own_pd506 rfl) rfl (by show 2 * 0 + _ ≤ _; exact Nat.le_of_eq rfl) (hb hby own_d19_1) (fun _ _ => ⟨rfl, e0, (by decide : 0 + 3 ≤ _), (by decide : 0 + 8 ≤ _)⟩)
  dsimp only [Pt.U, Pt.locs, Pt.cells, Pt.slots] at X1 l1 y1 z1 st1 hQ1
  subst l1 y1 z1
  obtain ⟨li_1, ea_1, ke_1, rfl, N1q, Kq1, o1_0, o1_1, o1_2, o1_3, o1_4⟩ := hQ1
  have N1 := Fr.app N0 N1q
  have Z2 : n0 ≤ T1.heap.size := Nat.le_trans Z0 Kq1.1
  have K3 : Keep h0 T1.heap [] := KR.trans Kq1 all0
  have g_li_1 : n0 ≤ li_1 := Nat.le_trans Z0 o1_0
  have sz_li_1 : h0.size ≤ li_1 := Nat.le_trans KR.1 o1_0
  have g_ea_1 : n0 ≤ ea_1 := Nat.le_trans Z0 o1_1
  have sz_ea_1 : h0.size ≤ ea_1 := Nat.le_trans KR.1 o1_1
  refine Good.back st1 ?_
  show Good p e below _ (T1.setTop (mkF m 4 #[.val (.ref r0), .unset] [(.ref li_1)]))
  refine Good.back (fun _ k => XS.astoreN X1.here hx rfl (hb hby own_d19_4) rfl rfl (l' := #[.val (.ref r0), .val (.ref li_1)]) rfl k) ?_
  obtain ⟨T4, h4, X4, e4, E4, A4, D4, -, st4⟩ := newO X1 hx hZ hown (hw _ (own_m 108 rfl)) (hw _ (own_m 141 rfl)) (hw _ (own_m 106 rfl)) rfl (g := (mkF m 5 #[.val (.ref r0), .val (.ref li_1)] [])) rfl (hb hby own_d19_5) (by decide) (by decide)
  obtain ⟨b4, g4⟩ : ∃ z, z = T1.heap.size := ⟨_, rfl⟩
  rw [← g4] at A4 D4 st4
  refine Good.back st4 ?_
  have g_b4 : n0 ≤ b4 := Nat.le_trans Z2 (Nat.le_of_eq g4.symm)
  have sz_b4 : h0.size ≤ b4 := Nat.le_trans K3.1 (Nat.le_of_eq g4.symm)
  have Z5 : n0 ≤ h4.size := Nat.le_trans Z2 E4.1
  have K6 : Keep h0 h4 [] := K3.ext E4
  have f_7 : Exa Z h4 b4 "com/example/liken/liken/core/TokenSlice" := A4
  have f_8 : Fld Z h4 b4 "java/util/AbstractList" "modCount" "I" (.int (0 : Int32)) := D4 (Or.inl (hw _ (own_m 159 rfl))) (ty := .int) (by decide)
  have f_9 : Fld Z h4 b4 "com/example/liken/liken/core/TokenSlice" "all" "Ljava/util/List;" .null := D4 (Or.inr (hw _ (own_m 161 rfl))) (ty := (.object "java/util/List")) (by decide)
  have f_10 : Fld Z h4 b4 "com/example/liken/liken/core/TokenSlice" "from" "I" (.int (0 : Int32)) := D4 (Or.inr (hw _ (own_m 163 rfl))) (ty := .int) (by decide)
  have f_11 : Fld Z h4 b4 "com/example/liken/liken/core/TokenSlice" "size" "I" (.int (0 : Int32)) := D4 (Or.inr (hw _ (own_m 165 rfl))) (ty := .int) (by decide)
  refine Good.back (fun _ k => XS.dup X4.here hx rfl (hb hby own_d19_8) rfl rfl k) ?_
  refine Good.back (fun _ k => XS.aloadN X4.here hx rfl (hb hby own_d19_9) rfl rfl k) ?_
  refine Good.back (fun _ k => XS.iconst X4.here hx rfl (hb hby own_d19_10) k) ?_
  refine Good.back (fun _ k => XS.aloadN X4.here hx rfl (hb hby own_d19_11) rfl rfl k) ?_
  show Good p e below _ (T4.setTop (mkF m 12 #[.val (.ref r0), .val (.ref li_1)] [(.ref li_1), (.int (0 : Int32)), (.ref li_1), (.ref b4), (.ref b4)]))
  have f_13 : Fld Z h4 li_1 "java/util/ImmutableCollections$ListN" "elements" "[Ljava/lang/Object;" (.ref ea_1) := Fld.ext E4 o1_3
  have f_14 : Arv Z h4 ea_1 ke_1 (.object "java/lang/Object") (3 : Int32) [(.ref x0), (.ref x1), (.ref x2)] .null := Arv.ext o1_4 E4
  have f_15 : Exa Z h4 li_1 "java/util/ImmutableCollections$ListN" := Exa.ext E4 o1_2
  obtain ⟨cq12, kq12, q12a, q12b, q12c⟩ := isOf hZ e4 f_15
  obtain ⟨_, _, ⟨T12, L12, k12, n12⟩, -, X12, ⟨Lc12, hQ12, l12, y12, z12⟩, st12⟩ := X4.interfaceBack hx (xi := (⟨"java/util/List", "size", "()I"⟩ : MethodName)) (y := (⟨"java/util/ImmutableCollections$ListN", "size", "()I"⟩ : MethodName)) hown (mvT hZ (hw _ (own_m 142 rfl))) (mvT hZ (hw _ (own_m 143 rfl))) (mvT hZ (hw _ (own_m 144 rfl))) (mvT hZ (hw _ (own_m 145 rfl))) (mvT hZ (hw _ (own_m 146 rfl))) (mvT hZ (hw _ (own_m 147 rfl))) (mvT hZ (hw _ (own_m 148 rfl))) (mvT hZ (hw _ (own_m 149 rfl))) (by decide) (backOf (W := 4) (rm24_3 l Z a0 hw [] li_1 ea_1 ke_1 x0 x1 x2 h4 n0 Z5 f_13 f_14) hZ (hw _ (own_m 151 rfl)) (hw _ (own_m 150 rfl)) (by decide) (by decide)) q12a q12b q12c (g := (mkF m 12 #[.val (.ref r0), .val (.ref li_1)] [(.ref li_1), (.int (0 : Int32)), (.ref li_1), (.ref b4), (.ref b4)])) rfl (by rw [hml]; rfl) (Steps.refl _) (argsL := []) (rest := [(.int (0 : Int32)), (.ref li_1), (.ref b4), (.ref b4)]) (lenOf own_pd510 rfl) rfl (by show 2 * 0 + _ ≤ _; exact Nat.le_of_eq rfl) (hb hby own_d19_12) (fun _ _ => ⟨rfl, e4, (by decide : 4 + 0 ≤ _), (by decide : 12 + 0 ≤ _)⟩)
  dsimp only [Pt.U, Pt.locs, Pt.cells, Pt.slots] at X12 l12 y12 z12 st12 hQ12
  subst l12 y12 z12
  obtain ⟨rfl, N12q, eh12⟩ := hQ12
  have N12 := Fr.app N1 N12q
  refine Good.back (fun _ k => st12.trans k) ?_
  obtain ⟨_, _, ⟨T16, L16, k16, n16⟩, -, X16, ⟨Lc16, hQ16, l16, y16, z16⟩, st16⟩ := X12.specialBack hx (y := (⟨"com/example/liken/liken/core/TokenSlice", "<init>", "(Ljava/util/List;II)V"⟩ : MethodName)) rfl hown (mvT hZ (hw _ (own_m 154 rfl))) (mvT hZ (hw _ (own_m 155 rfl))) (mvT hZ (hw _ (own_m 156 rfl))) (by decide) (backOf (W := 1) (rm25 l Z a0 hw [] b4 li_1 (0 : Int32) (3 : Int32)  h4 n0 Z5 f_7 g_b4 f_8 f_9 f_10 f_11) hZ (hw _ (own_m 156 rfl)) (hw _ (own_m 106 rfl)) (by decide) (by decide)) (g := (mkF m 17 #[.val (.ref r0), .val (.ref li_1)] [(.int (3 : Int32)), (.int (0 : Int32)), (.ref li_1), (.ref b4), (.ref b4)])) rfl (by rw [hml]; rfl) (Steps.refl _) (a := b4) (argsL := [(.ref li_1), (.int (0 : Int32)), (.int (3 : Int32))]) (rest := [(.ref b4)]) (lenOf own_pd351 rfl) rfl (by show 2 * 0 + _ ≤ _; exact Nat.le_of_eq rfl) (hb hby own_d19_17) (fun _ _ => ⟨rfl, eh12, (by decide : 4 + 0 ≤ _), (by decide : 12 + 0 ≤ _)⟩)
  dsimp only [Pt.U, Pt.locs, Pt.cells, Pt.slots] at X16 l16 y16 z16 st16 hQ16
  subst l16 y16 z16
  obtain ⟨rfl, N16q, Kq16, o16_0, o16_1, o16_2⟩ := hQ16
  have N16 := Fr.app N12 N16q
  have Z17 : n0 ≤ T16.heap.size := Nat.le_trans Z5 Kq16.1
  have K18 : Keep h0 T16.heap [] := K6.trans Kq16 (allS (Or.inr sz_b4) all0)
  refine Good.back (fun _ k => st16.trans k) ?_
  show Good p e below _ (T16.setTop (mkF m 20 #[.val (.ref r0), .val (.ref li_1)] [(.ref b4)]))
  obtain ⟨fs19, hr19, hrun19, hended19, hW19, hsame19⟩ := X16.leave (v := some (.ref b4)) (fun h => by rw [Bd.returns] at h; cases h)
  refine Good.done (retOut X16 hx Bd.returns rfl (Or.inr (Or.inr (Or.inr (Or.inr ⟨rfl, rfl, rfl⟩)))) (hb hby own_d19_20) hr19) hrun19 hended19 ⟨_, _, rfl, ?_, ⟨_, rfl⟩, hW19, hsame19.mono (by decide) (by decide)⟩
  show Q19_3 Z r0 ar kk mr x0 x1 x2 h0 n0 _ T16.heap _
  have f_20 : Exa Z T16.heap b4 "com/example/liken/liken/core/TokenSlice" := Exa.keep f_7 Kq16
  have f_21 : Exa Z T16.heap li_1 "java/util/ImmutableCollections$ListN" := Exa.keep f_15 Kq16
  have ne_li_1_b4_23 : li_1 ≠ b4 := Nat.ne_of_lt (Nat.lt_of_lt_of_le o1_3.lt (Nat.le_of_eq g4.symm))
  have f_22 : Fld Z T16.heap li_1 "java/util/ImmutableCollections$ListN" "elements" "[Ljava/lang/Object;" (.ref ea_1) := Fld.keep f_13 Kq16 (ninS ne_li_1_b4_23 nin0)
  have ne_ea_1_b4_25 : ea_1 ≠ b4 := Nat.ne_of_lt (Nat.lt_of_lt_of_le o1_4.lt (Nat.le_of_eq g4.symm))
  have f_24 : Arv Z T16.heap ea_1 ke_1 (.object "java/lang/Object") (3 : Int32) [(.ref x0), (.ref x1), (.ref x2)] .null := Arv.keep f_14 Kq16 (ninS ne_ea_1_b4_25 nin0)
  exact ⟨b4, li_1, ea_1, ke_1, rfl, N16, K18, sz_b4, f_20, o16_0, o16_1, o16_2, sz_li_1, sz_ea_1, f_21, f_22, f_24⟩
theorem own_pd562 : parseMethodDescriptor "()Ljava/util/List;" = some ⟨[], some (.object "java/util/List")⟩ := by decide +kernel
theorem own_d21_40 : decode jdk_56_method_3_code 40 = .ok (.invokestatic 26, 3) := by decide +kernel
theorem own_d21_43 : decode jdk_56_method_3_code 43 = .ok (.areturn, 1) := by decide +kernel
theorem own_ef_21_0 (m : MethodId) (x0 : Addr) : entryFrame m #[(.ref x0)] 2 = mkF m 0 #[.val (.ref x0), .unset] [] := by first | (simp [entryFrame, mkF, argsToLocals, Value.category]; done) | rfl
def Q21_0 (Z : State) (r0 : Addr) (el : Addr) (h0 : Heap) (n0 : Nat) (v : Option Value) (h : Heap) (L : List Loc) : Prop := v = some (.ref el) ∧ Fr n0 L ∧ h = h0
set_option maxRecDepth 65536 in
set_option maxHeartbeats 40000000 in
theorem rm21_0 (l : Launch) (Z : State) (a0 : Array Value) (hw : ∀ d ∈ tables_1, d.before a0 Z = true) (ws : List Jvm.Cond) (r0 : Addr) (el : Addr) (h0 : Heap) (n0 : Nat) (Z0 : n0 ≤ h0.size) (E0 : Exa Z h0 r0 "java/util/ArrayList") (Fs : Fld Z h0 r0 "java/util/ArrayList" "size" "I" (.int (0 : Int32))) (S_el : Sta Z h0 "java/util/ImmutableCollections" "EMPTY_LIST" "Ljava/util/ImmutableCollections$ListN;" (.ref el)) :
    MetFree l (⟨"java/util/ImmutableCollections", "listCopy", "(Ljava/util/Collection;)Ljava/util/List;"⟩ : MethodName) (head1 (Jvm.Cond.code (⟨"java/util/ImmutableCollections", "listCopy", "(Ljava/util/Collection;)Ljava/util/List;"⟩ : MethodName) jdk_56_method_3_code 2 (some (.object "java/util/List")) :: ws) ({ frames := 1, cells := 0, slots := 0, locals := 12 } : Room)) (fun a U => a = #[(.ref r0)] ∧ Z.Warmed39 U.vm ∧ U.heap = h0) (fun _ _ _ _ _ => True) (fun _ U o U' => ∃ v L, o = .returned v ∧ Q21_0 Z r0 el h0 n0 v U'.heap L ∧ FrameEnd U o U' L ({ frames := 1, cells := 0, slots := 0, locals := 12 } : Room).cells ({ frames := 1, cells := 0, slots := 0, locals := 12 } : Room).slots) := by
  refine MetFree.of_bodySF (plainFor_of_name own_pn18) hisR ?_
  intro p e s m args below meth c s₁ Bd hml0 hP hK
  obtain ⟨rfl, hZ, hh⟩ := hP
  have hx := Bd.exec
  have hby := Bd.bytes
  have hml : c.maxLocals = 2 := hml0
  have hown : s.vm.findClass "java/util/ImmutableCollections" = some m.cls := findClass_of_methodNamed Bd.named
  have hnm := (name_of_methodNamed Bd.named Bd.method).1
  have X0 : Stand p l e ({ frames := 1, cells := 0, slots := 0, locals := 12 } : Room) s m #[(.ref r0)] below meth c s₁ [] 0 0 := Stand.of_body Bd
  have e0 : s₁.heap = h0 := by rw [← hh, Bd.state]; rfl
  have N0 := Fr.nil n0
  show Good p e below (fun o U' => ∃ v L, o = .returned v ∧ Q21_0 Z r0 el h0 n0 v U'.heap L ∧ FrameEnd s o U' L ({ frames := 1, cells := 0, slots := 0, locals := 12 } : Room).cells ({ frames := 1, cells := 0, slots := 0, locals := 12 } : Room).slots) _
  refine Good.back (S' := s₁.setTop (mkF m 0 #[.val (.ref r0), .unset] [])) (fun t k => castTop (own_ef_21_0 m r0) k) ?_
  show Good p e below _ (s₁.setTop (mkF m 0 #[.val (.ref r0), .unset] []))
  refine Good.back (fun _ k => XS.aloadN X0.here hx rfl (hb hby own_d21_0) rfl rfl k) ?_
  obtain ⟨T1, X1, e1, st1⟩ := instNo X0 hx hZ hown (hw _ (own_m 124 rfl)) e0 E0 (own_nsNo (hw _ (own_m 109 rfl)) (hw _ (own_m 243 rfl)) (NS.step (hw _ (own_m 109 rfl)) (NS.step (hw _ (own_m 110 rfl)) (NS.step (hw _ (own_m 111 rfl)) (own_nsRoot (hw _ (own_m 112 rfl)) (hw _ (own_m 243 rfl)) (by decide)) (by decide)) (by decide)) (by decide)) (by decide)) (g := (mkF m 1 #[.val (.ref r0), .unset] [(.ref r0)])) rfl rfl (hb hby own_d21_1)
  refine Good.back st1 ?_
  show Good p e below _ (T1.setTop (mkF m 4 #[.val (.ref r0), .unset] [(.int (0 : Int32))]))
  refine Good.back (fun _ k => XS.ifNo X1.here hx rfl (hb hby own_d21_4) rfl ((if0 _ _).trans (teq (by decide : ((0 : Int32) = (0 : Int32)))).2) k) ?_
  show Good p e below _ (T1.setTop (mkF m 7 #[.val (.ref r0), .unset] []))
  refine Good.back (fun _ k => XS.aloadN X1.here hx rfl (hb hby own_d21_7) rfl rfl k) ?_
  obtain ⟨T2, X2, e2, st2⟩ := instNo X1 hx hZ hown (hw _ (own_m 125 rfl)) e1 E0 (own_nsNo (hw _ (own_m 109 rfl)) (hw _ (own_m 290 rfl)) (NS.step (hw _ (own_m 109 rfl)) (NS.step (hw _ (own_m 110 rfl)) (NS.step (hw _ (own_m 111 rfl)) (own_nsRoot (hw _ (own_m 112 rfl)) (hw _ (own_m 290 rfl)) (by decide)) (by decide)) (by decide)) (by decide)) (by decide)) (g := (mkF m 8 #[.val (.ref r0), .unset] [(.ref r0)])) rfl rfl (hb hby own_d21_8)
  refine Good.back st2 ?_
  show Good p e below _ (T2.setTop (mkF m 11 #[.val (.ref r0), .unset] [(.int (0 : Int32))]))
  refine Good.back (fun _ k => XS.ifYes X2.here hx rfl (pc0 := 11) (pc' := 31) rfl (hb hby own_d21_11) rfl ((if0 _ _).trans (teq (by decide : ((0 : Int32) = (0 : Int32)))).1) (by decide) (by decide) k) ?_
  show Good p e below _ (T2.setTop (mkF m 31 #[.val (.ref r0), .unset] []))
  refine Good.back (fun _ k => XS.aloadN X2.here hx rfl (hb hby own_d21_31) rfl rfl k) ?_
  obtain ⟨cq3, kq3, q3a, q3b, q3c⟩ := isOf hZ e2 E0
  obtain ⟨_, _, ⟨T3, L3, k3, n3⟩, -, X3, ⟨Lc3, hQ3, l3, y3, z3⟩, st3⟩ := X2.interfaceBack hx (xi := (⟨"java/util/Collection", "isEmpty", "()Z"⟩ : MethodName)) (y := (⟨"java/util/ArrayList", "isEmpty", "()Z"⟩ : MethodName)) hown (mvT hZ (hw _ (own_m 126 rfl))) (mvT hZ (hw _ (own_m 127 rfl))) (mvT hZ (hw _ (own_m 128 rfl))) (mvT hZ (hw _ (own_m 129 rfl))) (mvT hZ (hw _ (own_m 130 rfl))) (mvT hZ (hw _ (own_m 131 rfl))) (mvT hZ (hw _ (own_m 132 rfl))) (mvT hZ (hw _ (own_m 133 rfl))) (by decide) (backOf (W := 0) (rm22_0 l Z a0 hw [] r0  h0 n0 Z0 Fs) hZ (hw _ (own_m 134 rfl)) (hw _ (own_m 82 rfl)) (by decide) (by decide)) q3a q3b q3c (g := (mkF m 32 #[.val (.ref r0), .unset] [(.ref r0)])) rfl (by rw [hml]; rfl) (Steps.refl _) (argsL := []) (rest := []) (lenOf own_pd491 rfl) rfl (by show 2 * 0 + _ ≤ _; exact Nat.le_of_eq rfl) (hb hby own_d21_32) (fun _ _ => ⟨rfl, e2, (by decide : 0 + 0 ≤ _), (by decide : 0 + 0 ≤ _)⟩)
  dsimp only [Pt.U, Pt.locs, Pt.cells, Pt.slots] at X3 l3 y3 z3 st3 hQ3
  subst l3 y3 z3
  obtain ⟨rfl, N3q, eh3⟩ := hQ3
  have N3 := Fr.app N0 N3q
  refine Good.back (fun _ k => st3.trans k) ?_
  show Good p e below _ (T3.setTop (mkF m 37 #[.val (.ref r0), .unset] [(.int (1 : Int32))]))
  refine Good.back (fun _ k => XS.ifNo X3.here hx rfl (hb hby own_d21_37) rfl ((if0 _ _).trans (feq (by decide : ¬ ((1 : Int32) = (0 : Int32)))).1) k) ?_
  show Good p e below _ (T3.setTop (mkF m 40 #[.val (.ref r0), .unset] []))
  obtain ⟨_, _, ⟨T4, L4, k4, n4⟩, -, X4, ⟨Lc4, hQ4, l4, y4, z4⟩, st4⟩ := Jvm.LawKit.callS X3 hx (y := (⟨"java/util/List", "of", "()Ljava/util/List;"⟩ : MethodName)) hown (mvT hZ (hw _ (own_m 137 rfl))) (mvT hZ (hw _ (own_m 138 rfl))) (mvT hZ (hw _ (own_m 118 rfl))) (mvT hZ (hw _ (own_m 139 rfl))) (by decide) (backOf (W := 0) (rm23 l Z a0 hw []  el h0 n0 Z0 S_el) hZ (hw _ (own_m 139 rfl)) (hw _ (own_m 118 rfl)) (by decide) (by decide)) (g := (mkF m 40 #[.val (.ref r0), .unset] [])) rfl (by rw [hml]; rfl) (argsL := []) (rest := []) (lenOf own_pd562 rfl) rfl (by show 2 * 0 + _ ≤ _; exact Nat.le_of_eq rfl) (hb hby own_d21_40) (fun _ _ => ⟨rfl, eh3, (by decide : 0 + 0 ≤ _), (by decide : 0 + 0 ≤ _)⟩)
  dsimp only [Pt.U, Pt.locs, Pt.cells, Pt.slots] at X4 l4 y4 z4 st4 hQ4
  subst l4 y4 z4
  obtain ⟨rfl, N4q, eh4⟩ := hQ4
  have N4 := Fr.app N3 N4q
  refine Good.back st4 ?_
  show Good p e below _ (T4.setTop (mkF m 43 #[.val (.ref r0), .unset] [(.ref el)]))
  obtain ⟨fs5, hr5, hrun5, hended5, hW5, hsame5⟩ := X4.leave (v := some (.ref el)) (fun h => by rw [Bd.returns] at h; cases h)
  refine Good.done (retOut X4 hx Bd.returns rfl (Or.inr (Or.inr (Or.inr (Or.inr ⟨rfl, rfl, rfl⟩)))) (hb hby own_d21_43) hr5) hrun5 hended5 ⟨_, _, rfl, ?_, ⟨_, rfl⟩, hW5, hsame5.mono (by decide) (by decide)⟩
  show Q21_0 Z r0 el h0 n0 _ T4.heap _
  rw [eh4]
  exact ⟨rfl, N4, rfl⟩
theorem own_ef_20_0 (m : MethodId) (x0 : Addr) : entryFrame m #[(.ref x0)] 1 = mkF m 0 #[.val (.ref x0)] [] := by first | (simp [entryFrame, mkF, argsToLocals, Value.category]; done) | rfl
def Q20_0 (Z : State) (r0 : Addr) (el : Addr) (h0 : Heap) (n0 : Nat) (v : Option Value) (h : Heap) (L : List Loc) : Prop := v = some (.ref el) ∧ Fr n0 L ∧ h = h0
set_option maxRecDepth 65536 in
set_option maxHeartbeats 40000000 in
theorem rm20_0 (l : Launch) (Z : State) (a0 : Array Value) (hw : ∀ d ∈ tables_1, d.before a0 Z = true) (ws : List Jvm.Cond) (r0 : Addr) (el : Addr) (h0 : Heap) (n0 : Nat) (Z0 : n0 ≤ h0.size) (E0 : Exa Z h0 r0 "java/util/ArrayList") (Fs : Fld Z h0 r0 "java/util/ArrayList" "size" "I" (.int (0 : Int32))) (S_el : Sta Z h0 "java/util/ImmutableCollections" "EMPTY_LIST" "Ljava/util/ImmutableCollections$ListN;" (.ref el)) :
    MetFree l (⟨"java/util/List", "copyOf", "(Ljava/util/Collection;)Ljava/util/List;"⟩ : MethodName) (head1 (Jvm.Cond.code (⟨"java/util/List", "copyOf", "(Ljava/util/Collection;)Ljava/util/List;"⟩ : MethodName) jdk_40_method_48_code 1 (some (.object "java/util/List")) :: ws) ({ frames := 2, cells := 0, slots := 0, locals := 25 } : Room)) (fun a U => a = #[(.ref r0)] ∧ Z.Warmed39 U.vm ∧ U.heap = h0) (fun _ _ _ _ _ => True) (fun _ U o U' => ∃ v L, o = .returned v ∧ Q20_0 Z r0 el h0 n0 v U'.heap L ∧ FrameEnd U o U' L ({ frames := 2, cells := 0, slots := 0, locals := 25 } : Room).cells ({ frames := 2, cells := 0, slots := 0, locals := 25 } : Room).slots) := by
  refine MetFree.of_bodySF (plainFor_of_name own_pn14) hisR ?_
  intro p e s m args below meth c s₁ Bd hml0 hP hK
  obtain ⟨rfl, hZ, hh⟩ := hP
  have hx := Bd.exec
  have hby := Bd.bytes
  have hml : c.maxLocals = 1 := hml0
  have hown : s.vm.findClass "java/util/List" = some m.cls := findClass_of_methodNamed Bd.named
  have hnm := (name_of_methodNamed Bd.named Bd.method).1
  have X0 : Stand p l e ({ frames := 2, cells := 0, slots := 0, locals := 25 } : Room) s m #[(.ref r0)] below meth c s₁ [] 0 0 := Stand.of_body Bd
  have e0 : s₁.heap = h0 := by rw [← hh, Bd.state]; rfl
  have N0 := Fr.nil n0
  show Good p e below (fun o U' => ∃ v L, o = .returned v ∧ Q20_0 Z r0 el h0 n0 v U'.heap L ∧ FrameEnd s o U' L ({ frames := 2, cells := 0, slots := 0, locals := 25 } : Room).cells ({ frames := 2, cells := 0, slots := 0, locals := 25 } : Room).slots) _
  refine Good.back (S' := s₁.setTop (mkF m 0 #[.val (.ref r0)] [])) (fun t k => castTop (own_ef_20_0 m r0) k) ?_
  show Good p e below _ (s₁.setTop (mkF m 0 #[.val (.ref r0)] []))
  refine Good.back (fun _ k => XS.aloadN X0.here hx rfl (hb hby own_d20_0) rfl rfl k) ?_
  obtain ⟨_, _, ⟨T1, L1, k1, n1⟩, -, X1, ⟨Lc1, hQ1, l1, y1, z1⟩, st1⟩ := Jvm.LawKit.callS X0 hx (y := (⟨"java/util/ImmutableCollections", "listCopy", "(Ljava/util/Collection;)Ljava/util/List;"⟩ : MethodName)) hown (mvT hZ (hw _ (own_m 120 rfl))) (mvT hZ (hw _ (own_m 121 rfl))) (mvT hZ (hw _ (own_m 122 rfl))) (mvT hZ (hw _ (own_m 123 rfl))) (by decide) (backOf (W := 0) (rm21_0 l Z a0 hw [] r0 el h0 n0 Z0 E0 Fs S_el) hZ (hw _ (own_m 123 rfl)) (hw _ (own_m 122 rfl)) (by decide) (by decide)) (g := (mkF m 1 #[.val (.ref r0)] [(.ref r0)])) rfl (by rw [hml]; rfl) (argsL := [(.ref r0)]) (rest := []) (lenOf own_pd506 rfl) rfl (by show 2 * 0 + _ ≤ _; exact Nat.le_of_eq rfl) (hb hby own_d20_1) (fun _ _ => ⟨rfl, e0, (by decide : 0 + 0 ≤ _), (by decide : 0 + 0 ≤ _)⟩)
  dsimp only [Pt.U, Pt.locs, Pt.cells, Pt.slots] at X1 l1 y1 z1 st1 hQ1
  subst l1 y1 z1
  obtain ⟨rfl, N1q, eh1⟩ := hQ1
  have N1 := Fr.app N0 N1q
  refine Good.back st1 ?_
  show Good p e below _ (T1.setTop (mkF m 4 #[.val (.ref r0)] [(.ref el)]))
  obtain ⟨fs2, hr2, hrun2, hended2, hW2, hsame2⟩ := X1.leave (v := some (.ref el)) (fun h => by rw [Bd.returns] at h; cases h)
  refine Good.done (retOut X1 hx Bd.returns rfl (Or.inr (Or.inr (Or.inr (Or.inr ⟨rfl, rfl, rfl⟩)))) (hb hby own_d20_4) hr2) hrun2 hended2 ⟨_, _, rfl, ?_, ⟨_, rfl⟩, hW2, hsame2.mono (by decide) (by decide)⟩
  show Q20_0 Z r0 el h0 n0 _ T1.heap _
  rw [eh1]
  exact ⟨rfl, N1, rfl⟩
theorem own_ef_19_0 (m : MethodId) (x0 : Addr) : entryFrame m #[(.ref x0)] 2 = mkF m 0 #[.val (.ref x0), .unset] [] := by first | (simp [entryFrame, mkF, argsToLocals, Value.category]; done) | rfl
def Q19_0 (Z : State) (r0 : Addr) (el : Addr) (ea : Addr) (ke : ClassId) (h0 : Heap) (n0 : Nat) (v : Option Value) (h : Heap) (L : List Loc) : Prop := ∃ (ts : Addr), v = some (.ref ts) ∧ Fr n0 L ∧ Keep h0 h [] ∧ h0.size ≤ ts ∧ Exa Z h ts "com/example/liken/liken/core/TokenSlice" ∧ Fld Z h ts "com/example/liken/liken/core/TokenSlice" "all" "Ljava/util/List;" (.ref el) ∧ Fld Z h ts "com/example/liken/liken/core/TokenSlice" "from" "I" (.int (0 : Int32)) ∧ Fld Z h ts "com/example/liken/liken/core/TokenSlice" "size" "I" (.int (0 : Int32))
set_option maxRecDepth 65536 in
set_option maxHeartbeats 40000000 in
theorem rm19_0 (l : Launch) (Z : State) (a0 : Array Value) (hw : ∀ d ∈ tables_1, d.before a0 Z = true) (ws : List Jvm.Cond) (r0 : Addr) (el : Addr) (ea : Addr) (ke : ClassId) (h0 : Heap) (n0 : Nat) (Z0 : n0 ≤ h0.size) (E0 : Exa Z h0 r0 "java/util/ArrayList") (Fs : Fld Z h0 r0 "java/util/ArrayList" "size" "I" (.int (0 : Int32))) (S_el : Sta Z h0 "java/util/ImmutableCollections" "EMPTY_LIST" "Ljava/util/ImmutableCollections$ListN;" (.ref el)) (E_el : Exa Z h0 el "java/util/ImmutableCollections$ListN") (F_el : Fld Z h0 el "java/util/ImmutableCollections$ListN" "elements" "[Ljava/lang/Object;" (.ref ea)) (V_ea : Arv Z h0 ea ke (.object "java/lang/Object") (0 : Int32) [] .null) :
    MetFree l (⟨"com/example/liken/liken/core/TokenSlice", "of", "(Ljava/util/List;)Lcom/example/liken/liken/core/TokenSlice;"⟩ : MethodName) (head1 (Jvm.Cond.code (⟨"com/example/liken/liken/core/TokenSlice", "of", "(Ljava/util/List;)Lcom/example/liken/liken/core/TokenSlice;"⟩ : MethodName) prog_45_method_2_code 2 (some (.object "com/example/liken/liken/core/TokenSlice")) :: ws) ({ frames := 4, cells := 1, slots := 4, locals := 52 } : Room)) (fun a U => a = #[(.ref r0)] ∧ Z.Warmed39 U.vm ∧ U.heap = h0) (fun _ _ _ _ _ => True) (fun _ U o U' => ∃ v L, o = .returned v ∧ Q19_0 Z r0 el ea ke h0 n0 v U'.heap L ∧ FrameEnd U o U' L ({ frames := 4, cells := 1, slots := 4, locals := 52 } : Room).cells ({ frames := 4, cells := 1, slots := 4, locals := 52 } : Room).slots) := by
  refine MetFree.of_bodySF (plainFor_of_name own_pn12) hisR ?_
  intro p e s m args below meth c s₁ Bd hml0 hP hK
  obtain ⟨rfl, hZ, hh⟩ := hP
  have hx := Bd.exec
  have hby := Bd.bytes
  have hml : c.maxLocals = 2 := hml0
  have hown : s.vm.findClass "com/example/liken/liken/core/TokenSlice" = some m.cls := findClass_of_methodNamed Bd.named
  have hnm := (name_of_methodNamed Bd.named Bd.method).1
  have X0 : Stand p l e ({ frames := 4, cells := 1, slots := 4, locals := 52 } : Room) s m #[(.ref r0)] below meth c s₁ [] 0 0 := Stand.of_body Bd
  have e0 : s₁.heap = h0 := by rw [← hh, Bd.state]; rfl
  have N0 := Fr.nil n0
  have KR : Keep h0 h0 [] := Keep.refl h0 _
  show Good p e below (fun o U' => ∃ v L, o = .returned v ∧ Q19_0 Z r0 el ea ke h0 n0 v U'.heap L ∧ FrameEnd s o U' L ({ frames := 4, cells := 1, slots := 4, locals := 52 } : Room).cells ({ frames := 4, cells := 1, slots := 4, locals := 52 } : Room).slots) _
  refine Good.back (S' := s₁.setTop (mkF m 0 #[.val (.ref r0), .unset] [])) (fun t k => castTop (own_ef_19_0 m r0) k) ?_
  show Good p e below _ (s₁.setTop (mkF m 0 #[.val (.ref r0), .unset] []))
  refine Good.back (fun _ k => XS.aloadN X0.here hx rfl (hb hby own_d19_0) rfl rfl k) ?_
  obtain ⟨_, _, ⟨T1, L1, k1, n1⟩, -, X1, ⟨Lc1, hQ1, l1, y1, z1⟩, st1⟩ := Jvm.LawKit.callS X0 hx (y := (⟨"java/util/List", "copyOf", "(Ljava/util/Collection;)Ljava/util/List;"⟩ : MethodName)) hown (mvT hZ (hw _ (own_m 116 rfl))) (mvT hZ (hw _ (own_m 117 rfl))) (mvT hZ (hw _ (own_m 118 rfl))) (mvT hZ (hw _ (own_m 119 rfl))) (by decide) (backOf (W := 0) (rm20_0 l Z a0 hw [] r0 el h0 n0 Z0 E0 Fs S_el) hZ (hw _ (own_m 119 rfl)) (hw _ (own_m 118 rfl)) (by decide) (by decide)) (g := (mkF m 1 #[.val (.ref r0), .unset] [(.ref r0)])) rfl (by rw [hml]; rfl) (argsL := [(.ref r0)]) (rest := []) (lenOf own_pd506 rfl) rfl (by show 2 * 0 + _ ≤ _; exact Nat.le_of_eq rfl) (hb hby own_d19_1) (fun _ _ => ⟨rfl, e0, (by decide : 0 + 0 ≤ _), (by decide : 0 + 0 ≤ _)⟩)
  dsimp only [Pt.U, Pt.locs, Pt.cells, Pt.slots] at X1 l1 y1 z1 st1 hQ1
  subst l1 y1 z1
  obtain ⟨rfl, N1q, eh1⟩ := hQ1
  have N1 := Fr.app N0 N1q
  refine Good.back st1 ?_
  show Good p e below _ (T1.setTop (mkF m 4 #[.val (.ref r0), .unset] [(.ref el)]))
  refine Good.back (fun _ k => XS.astoreN X1.here hx rfl (hb hby own_d19_4) rfl rfl (l' := #[.val (.ref r0), .val (.ref el)]) rfl k) ?_
  obtain ⟨T2, h2, X2, e2, E2, A2, D2, -, st2⟩ := newO X1 hx hZ hown (hw _ (own_m 108 rfl)) (hw _ (own_m 141 rfl)) (hw _ (own_m 106 rfl)) eh1 (g := (mkF m 5 #[.val (.ref r0), .val (.ref el)] [])) rfl (hb hby own_d19_5) (by decide) (by decide)
  obtain ⟨b2, g2⟩ : ∃ z, z = h0.size := ⟨_, rfl⟩
  rw [← g2] at A2 D2 st2
  refine Good.back st2 ?_
  have g_b2 : n0 ≤ b2 := Nat.le_trans Z0 (Nat.le_of_eq g2.symm)
  have sz_b2 : h0.size ≤ b2 := Nat.le_trans KR.1 (Nat.le_of_eq g2.symm)
  have Z3 : n0 ≤ h2.size := Nat.le_trans Z0 E2.1
  have K4 : Keep h0 h2 [] := KR.ext E2
  have f_5 : Exa Z h2 b2 "com/example/liken/liken/core/TokenSlice" := A2
  have f_6 : Fld Z h2 b2 "java/util/AbstractList" "modCount" "I" (.int (0 : Int32)) := D2 (Or.inl (hw _ (own_m 159 rfl))) (ty := .int) (by decide)
  have f_7 : Fld Z h2 b2 "com/example/liken/liken/core/TokenSlice" "all" "Ljava/util/List;" .null := D2 (Or.inr (hw _ (own_m 161 rfl))) (ty := (.object "java/util/List")) (by decide)
  have f_8 : Fld Z h2 b2 "com/example/liken/liken/core/TokenSlice" "from" "I" (.int (0 : Int32)) := D2 (Or.inr (hw _ (own_m 163 rfl))) (ty := .int) (by decide)
  have f_9 : Fld Z h2 b2 "com/example/liken/liken/core/TokenSlice" "size" "I" (.int (0 : Int32)) := D2 (Or.inr (hw _ (own_m 165 rfl))) (ty := .int) (by decide)
  refine Good.back (fun _ k => XS.dup X2.here hx rfl (hb hby own_d19_8) rfl rfl k) ?_
  refine Good.back (fun _ k => XS.aloadN X2.here hx rfl (hb hby own_d19_9) rfl rfl k) ?_
  refine Good.back (fun _ k => XS.iconst X2.here hx rfl (hb hby own_d19_10) k) ?_
  refine Good.back (fun _ k => XS.aloadN X2.here hx rfl (hb hby own_d19_11) rfl rfl k) ?_
  show Good p e below _ (T2.setTop (mkF m 12 #[.val (.ref r0), .val (.ref el)] [(.ref el), (.int (0 : Int32)), (.ref el), (.ref b2), (.ref b2)]))
  have f_11 : Fld Z h2 el "java/util/ImmutableCollections$ListN" "elements" "[Ljava/lang/Object;" (.ref ea) := Fld.ext E2 F_el
  have f_12 : Arv Z h2 ea ke (.object "java/lang/Object") (0 : Int32) [] .null := Arv.ext V_ea E2
  have f_13 : Exa Z h2 el "java/util/ImmutableCollections$ListN" := Exa.ext E2 E_el
  obtain ⟨cq10, kq10, q10a, q10b, q10c⟩ := isOf hZ e2 f_13
  obtain ⟨_, _, ⟨T10, L10, k10, n10⟩, -, X10, ⟨Lc10, hQ10, l10, y10, z10⟩, st10⟩ := X2.interfaceBack hx (xi := (⟨"java/util/List", "size", "()I"⟩ : MethodName)) (y := (⟨"java/util/ImmutableCollections$ListN", "size", "()I"⟩ : MethodName)) hown (mvT hZ (hw _ (own_m 142 rfl))) (mvT hZ (hw _ (own_m 143 rfl))) (mvT hZ (hw _ (own_m 144 rfl))) (mvT hZ (hw _ (own_m 145 rfl))) (mvT hZ (hw _ (own_m 146 rfl))) (mvT hZ (hw _ (own_m 147 rfl))) (mvT hZ (hw _ (own_m 148 rfl))) (mvT hZ (hw _ (own_m 149 rfl))) (by decide) (backOf (W := 4) (rm24_0 l Z a0 hw [] el ea ke h2 n0 Z3 f_11 f_12) hZ (hw _ (own_m 151 rfl)) (hw _ (own_m 150 rfl)) (by decide) (by decide)) q10a q10b q10c (g := (mkF m 12 #[.val (.ref r0), .val (.ref el)] [(.ref el), (.int (0 : Int32)), (.ref el), (.ref b2), (.ref b2)])) rfl (by rw [hml]; rfl) (Steps.refl _) (argsL := []) (rest := [(.int (0 : Int32)), (.ref el), (.ref b2), (.ref b2)]) (lenOf own_pd510 rfl) rfl (by show 2 * 0 + _ ≤ _; exact Nat.le_of_eq rfl) (hb hby own_d19_12) (fun _ _ => ⟨rfl, e2, (by decide : 1 + 0 ≤ _), (by decide : 4 + 0 ≤ _)⟩)
  dsimp only [Pt.U, Pt.locs, Pt.cells, Pt.slots] at X10 l10 y10 z10 st10 hQ10
  subst l10 y10 z10
  obtain ⟨rfl, N10q, eh10⟩ := hQ10
  have N10 := Fr.app N1 N10q
  refine Good.back (fun _ k => st10.trans k) ?_
  obtain ⟨_, _, ⟨T14, L14, k14, n14⟩, -, X14, ⟨Lc14, hQ14, l14, y14, z14⟩, st14⟩ := X10.specialBack hx (y := (⟨"com/example/liken/liken/core/TokenSlice", "<init>", "(Ljava/util/List;II)V"⟩ : MethodName)) rfl hown (mvT hZ (hw _ (own_m 154 rfl))) (mvT hZ (hw _ (own_m 155 rfl))) (mvT hZ (hw _ (own_m 156 rfl))) (by decide) (backOf (W := 1) (rm25 l Z a0 hw [] b2 el (0 : Int32) (0 : Int32)  h2 n0 Z3 f_5 g_b2 f_6 f_7 f_8 f_9) hZ (hw _ (own_m 156 rfl)) (hw _ (own_m 106 rfl)) (by decide) (by decide)) (g := (mkF m 17 #[.val (.ref r0), .val (.ref el)] [(.int (0 : Int32)), (.int (0 : Int32)), (.ref el), (.ref b2), (.ref b2)])) rfl (by rw [hml]; rfl) (Steps.refl _) (a := b2) (argsL := [(.ref el), (.int (0 : Int32)), (.int (0 : Int32))]) (rest := [(.ref b2)]) (lenOf own_pd351 rfl) rfl (by show 2 * 0 + _ ≤ _; exact Nat.le_of_eq rfl) (hb hby own_d19_17) (fun _ _ => ⟨rfl, eh10, (by decide : 1 + 0 ≤ _), (by decide : 4 + 0 ≤ _)⟩)
  dsimp only [Pt.U, Pt.locs, Pt.cells, Pt.slots] at X14 l14 y14 z14 st14 hQ14
  subst l14 y14 z14
  obtain ⟨rfl, N14q, Kq14, o14_0, o14_1, o14_2⟩ := hQ14
  have N14 := Fr.app N10 N14q
  have Z15 : n0 ≤ T14.heap.size := Nat.le_trans Z3 Kq14.1
  have K16 : Keep h0 T14.heap [] := K4.trans Kq14 (allS (Or.inr sz_b2) all0)
  refine Good.back (fun _ k => st14.trans k) ?_
  show Good p e below _ (T14.setTop (mkF m 20 #[.val (.ref r0), .val (.ref el)] [(.ref b2)]))
  obtain ⟨fs17, hr17, hrun17, hended17, hW17, hsame17⟩ := X14.leave (v := some (.ref b2)) (fun h => by rw [Bd.returns] at h; cases h)
  refine Good.done (retOut X14 hx Bd.returns rfl (Or.inr (Or.inr (Or.inr (Or.inr ⟨rfl, rfl, rfl⟩)))) (hb hby own_d19_20) hr17) hrun17 hended17 ⟨_, _, rfl, ?_, ⟨_, rfl⟩, hW17, hsame17.mono (by decide) (by decide)⟩
  show Q19_0 Z r0 el ea ke h0 n0 _ T14.heap _
  have f_18 : Exa Z T14.heap b2 "com/example/liken/liken/core/TokenSlice" := Exa.keep f_5 Kq14
  exact ⟨b2, rfl, N14, K16, sz_b2, f_18, o14_0, o14_1, o14_2⟩
theorem own_pd565 : parseMethodDescriptor "(I)Lcom/example/liken/liken/core/Token;" = some ⟨[.int], some (.object "com/example/liken/liken/core/Token")⟩ := by decide +kernel
theorem own_pd566 : parseMethodDescriptor "(II)Lcom/example/liken/liken/core/TokenSlice;" = some ⟨[.int, .int], some (.object "com/example/liken/liken/core/TokenSlice")⟩ := by decide +kernel
theorem own_pd567 : parseMethodDescriptor "(Ljava/util/List;)Ljava/util/List;" = some ⟨[(.object "java/util/List")], some (.object "java/util/List")⟩ := by decide +kernel
theorem own_pd568 : parseMethodDescriptor "(Ljava/util/List;)Lcom/example/liken/liken/core/TokenSlice;" = some ⟨[(.object "java/util/List")], some (.object "com/example/liken/liken/core/TokenSlice")⟩ := by decide +kernel
theorem own_pd569 : parseMethodDescriptor "(Ljava/lang/Object;)Z" = some ⟨[(.object "java/lang/Object")], some .boolean⟩ := by decide +kernel
theorem own_pd570 : parseMethodDescriptor "(I)Ljava/lang/Object;" = some ⟨[.int], some (.object "java/lang/Object")⟩ := by decide +kernel
theorem own_ef_0 (m : MethodId) (x0 : Int32) (x1 : Int32) (x2 : Int32) (x3 : Int32) (x4 : Int32) (x5 : Int32) : entryFrame m #[(.int x0), (.int x1), (.int x2), (.int x3), (.int x4), (.int x5)] maxLocals = mkF m 0 #[.val (.int x0), .val (.int x1), .val (.int x2), .val (.int x3), .val (.int x4), .val (.int x5), .unset, .unset, .unset, .unset, .unset, .unset, .unset, .unset, .unset, .unset, .unset, .unset, .unset] [] := by first | (simp [entryFrame, mkF, argsToLocals, Value.category, maxLocals]; done) | rfl
def Q0 (Z : State) (p0 : Int32) (p1 : Int32) (p2 : Int32) (p3 : Int32) (p4 : Int32) (p5 : Int32) (cs : Int32) (w_NAME : Addr) (w_SYNTAX : Addr) (w_KEPT : Addr) (de : Addr) (kd : ClassId) (el : Addr) (ea : Addr) (ke : ClassId) (em : Addr) (mr : Addr) (h0 : Heap) (n0 : Nat) (v : Option Value) (h : Heap) (L : List Loc) : Prop := v = some (.int 1) ∧ Fr n0 L
set_option maxRecDepth 65536 in
set_option maxHeartbeats 40000000 in
theorem rm0 (l : Launch) (Z : State) (a0 : Array Value) (hw : ∀ d ∈ tables_1, d.before a0 Z = true) (ws : List Jvm.Cond) (p0 : Int32) (p1 : Int32) (p2 : Int32) (p3 : Int32) (p4 : Int32) (p5 : Int32) (cs : Int32) (w_NAME : Addr) (w_SYNTAX : Addr) (w_KEPT : Addr) (de : Addr) (kd : ClassId) (el : Addr) (ea : Addr) (ke : ClassId) (em : Addr) (mr : Addr) (h0 : Heap) (n0 : Nat) (Z0 : n0 ≤ h0.size) (S_cs : Sta Z h0 "java/lang/String" "COMPACT_STRINGS" "Z" (.int cs)) (hcs : ¬ (cs = (0 : Int32))) (S_wNAME : Sta Z h0 "com/example/liken/liken/core/Token$Abstraction" "NAME" "Lcom/example/liken/liken/core/Token$Abstraction;" (.ref w_NAME)) (S_wSYNTAX : Sta Z h0 "com/example/liken/liken/core/Token$Abstraction" "SYNTAX" "Lcom/example/liken/liken/core/Token$Abstraction;" (.ref w_SYNTAX)) (S_wKEPT : Sta Z h0 "com/example/liken/liken/core/Token$Abstraction" "KEPT" "Lcom/example/liken/liken/core/Token$Abstraction;" (.ref w_KEPT)) (S_de : Sta Z h0 "java/util/ArrayList" "DEFAULTCAPACITY_EMPTY_ELEMENTDATA" "[Ljava/lang/Object;" (.ref de)) (Vd : Arv Z h0 de kd (.object "java/lang/Object") (0 : Int32) [] .null) (S_el : Sta Z h0 "java/util/ImmutableCollections" "EMPTY_LIST" "Ljava/util/ImmutableCollections$ListN;" (.ref el)) (E_el : Exa Z h0 el "java/util/ImmutableCollections$ListN") (F_el : Fld Z h0 el "java/util/ImmutableCollections$ListN" "elements" "[Ljava/lang/Object;" (.ref ea)) (V_ea : Arv Z h0 ea ke (.object "java/lang/Object") (0 : Int32) [] .null) (S_em : Sta Z h0 "java/util/ImmutableCollections" "EMPTY" "Ljava/lang/Object;" (.ref em)) (E_em : Exa Z h0 em "java/lang/Object") (hmir : Mir Z "[Ljava/lang/Object;" mr) :
    MetFree l x (head1 (Jvm.Cond.code x code maxLocals ret :: ws) room_1) (fun a U => a = #[(.int p0), (.int p1), (.int p2), (.int p3), (.int p4), (.int p5)] ∧ Z.Warmed39 U.vm ∧ U.heap = h0) (fun _ _ _ _ _ => True) (fun _ U o U' => ∃ v L, o = .returned v ∧ Q0 Z p0 p1 p2 p3 p4 p5 cs w_NAME w_SYNTAX w_KEPT de kd el ea ke em mr h0 n0 v U'.heap L ∧ ReturnedEndW U o U' L 72 3328) := by
  refine MetFree.of_bodySF (plainFor_of_name own_pn9) hisR ?_
  intro p e s m args below meth c s₁ Bd hml0 hP hK
  obtain ⟨rfl, hZ, hh⟩ := hP
  have hx := Bd.exec
  have hby := Bd.bytes
  have hml : c.maxLocals = 19 := hml0
  have hown : s.vm.findClass "com/example/liken/liken/core/TokenSliceHeldPinLaw" = some m.cls := findClass_of_methodNamed Bd.named
  have hnm := (name_of_methodNamed Bd.named Bd.method).1
  have X0 : Stand p l e room_1 s m #[(.int p0), (.int p1), (.int p2), (.int p3), (.int p4), (.int p5)] below meth c s₁ [] 0 0 := Stand.of_body Bd
  have e0 : s₁.heap = h0 := by rw [← hh, Bd.state]; rfl
  have N0 := Fr.nil n0
  have X0c : Stand p l e room_1 (s.setVm s.vm) m #[(.int p0), (.int p1), (.int p2), (.int p3), (.int p4), (.int p5)] below meth c s₁ [] 0 0 := X0
  have hS0 : s.Since s.vm 0 := (State.WarmedH.refl s).since 0
  have hk0 : 0 ≤ h0.size := Nat.zero_le _
  have hZ0 : Z.Warmed39 (s.setVm s.vm).vm := hZ
  have hown0 : (s.setVm s.vm).vm.findClass "com/example/liken/liken/core/TokenSliceHeldPinLaw" = some m.cls := hown
  show Good p e below (fun o U' => ∃ v L, o = .returned v ∧ Q0 Z p0 p1 p2 p3 p4 p5 cs w_NAME w_SYNTAX w_KEPT de kd el ea ke em mr h0 n0 v U'.heap L ∧ ReturnedEndW s o U' L 72 3328) _
  refine Good.back (S' := s₁.setTop (mkF m 0 #[.val (.int p0), .val (.int p1), .val (.int p2), .val (.int p3), .val (.int p4), .val (.int p5), .unset, .unset, .unset, .unset, .unset, .unset, .unset, .unset, .unset, .unset, .unset, .unset, .unset] [])) (fun t k => castTop (own_ef_0 m p0 p1 p2 p3 p4 p5) k) ?_
  show Good p e below _ (s₁.setTop (mkF m 0 #[.val (.int p0), .val (.int p1), .val (.int p2), .val (.int p3), .val (.int p4), .val (.int p5), .unset, .unset, .unset, .unset, .unset, .unset, .unset, .unset, .unset, .unset, .unset, .unset, .unset] []))
  refine Good.back (fun _ k => XS.iloadN X0c.here hx rfl (hb hby at_0) rfl k) ?_
  refine Good.back (fun _ k => XS.iconst X0c.here hx rfl (hb hby at_1) k) ?_
  show Good p e below _ (s₁.setTop (mkF m 2 #[.val (.int p0), .val (.int p1), .val (.int p2), .val (.int p3), .val (.int p4), .val (.int p5), .unset, .unset, .unset, .unset, .unset, .unset, .unset, .unset, .unset, .unset, .unset, .unset, .unset] [(.int (3 : Int32)), (.int p0)]))
  refine Good.back (fun _ k => XS.iand X0c.here hx rfl (hb hby at_2) rfl k) ?_
  show Good p e below _ (s₁.setTop (mkF m 3 #[.val (.int p0), .val (.int p1), .val (.int p2), .val (.int p3), .val (.int p4), .val (.int p5), .unset, .unset, .unset, .unset, .unset, .unset, .unset, .unset, .unset, .unset, .unset, .unset, .unset] [(.int (p0 &&& (3 : Int32)))]))
  refine Good.back (fun _ k => XS.istore X0c.here hx rfl (hb hby at_3) rfl (l' := #[.val (.int p0), .val (.int p1), .val (.int p2), .val (.int p3), .val (.int p4), .val (.int p5), .val (.int (p0 &&& (3 : Int32))), .unset, .unset, .unset, .unset, .unset, .unset, .unset, .unset, .unset, .unset, .unset, .unset]) rfl k) ?_
  refine Good.back (fun _ k => XS.iloadN X0c.here hx rfl (hb hby at_5) rfl k) ?_
  obtain ⟨_, _, ⟨T1, L1, k1, n1⟩, -, Xc1, hSc1, hgc1, ⟨Lc1, hQ1, l1, y1, z1⟩, st1⟩ := callSS X0c hx (y := (⟨"com/example/liken/liken/core/TokenSliceHeldPinLaw", "tok", "(I)Lcom/example/liken/liken/core/Token;"⟩ : MethodName)) hown0 (mvT hZ0 (hw _ (own_m 0 rfl))) (mvT hZ0 (hw _ (own_m 1 rfl))) (mvT hZ0 (hw _ (own_m 2 rfl))) (mvT hZ0 (hw _ (own_m 3 rfl))) (by decide) (backOfS (W := 0) (rm1 l Z a0 hw [] p3 cs w_NAME w_SYNTAX w_KEPT h0 n0 Z0 S_cs (hcs) S_wNAME S_wSYNTAX S_wKEPT) hZ0 (hw _ (own_m 3 rfl)) (hw _ (own_m 2 rfl)) (by decide) (by decide)) (g := (mkF m 6 #[.val (.int p0), .val (.int p1), .val (.int p2), .val (.int p3), .val (.int p4), .val (.int p5), .val (.int (p0 &&& (3 : Int32))), .unset, .unset, .unset, .unset, .unset, .unset, .unset, .unset, .unset, .unset, .unset, .unset] [(.int p3)])) rfl (by rw [hml]; rfl) (argsL := [(.int p3)]) (rest := []) (lenOf own_pd565 rfl) rfl (by show 2 * 0 + _ ≤ _; exact Nat.le_of_eq rfl) (hb hby at_6) (fun _ _ => ⟨rfl, e0, (by decide : 0 + 12 ≤ _), (by decide : 0 + 103 ≤ _)⟩)
  dsimp only [Pt.U, Pt.locs, Pt.cells, Pt.slots] at Xc1 hSc1 hgc1 l1 y1 z1 st1 hQ1
  subst l1 y1 z1
  obtain ⟨X1, hS1, hZ1, hown1⟩ := rebS hS0 (by rw [e0]; exact hk0) Xc1 hSc1 hgc1 hZ0 hown0
  obtain ⟨tk_1, rfl, N1q, Kq1, o1_0, o1_1⟩ := hQ1
  have N1 := Fr.app N0 N1q
  have Z2 : n0 ≤ T1.heap.size := Nat.le_trans Z0 Kq1.1
  have hk3 := Nat.le_trans hk0 Kq1.1
  have g_tk_1 : n0 ≤ tk_1 := Nat.le_trans Z0 o1_0
  refine Good.back (fun _ k => st1.trans k) ?_
  show Good p e below _ (T1.setTop (mkF m 9 #[.val (.int p0), .val (.int p1), .val (.int p2), .val (.int p3), .val (.int p4), .val (.int p5), .val (.int (p0 &&& (3 : Int32))), .unset, .unset, .unset, .unset, .unset, .unset, .unset, .unset, .unset, .unset, .unset, .unset] [(.ref tk_1)]))
  refine Good.back (fun _ k => XS.astore X1.here hx rfl (hb hby at_9) rfl rfl (l' := #[.val (.int p0), .val (.int p1), .val (.int p2), .val (.int p3), .val (.int p4), .val (.int p5), .val (.int (p0 &&& (3 : Int32))), .val (.ref tk_1), .unset, .unset, .unset, .unset, .unset, .unset, .unset, .unset, .unset, .unset, .unset]) rfl k) ?_
  refine Good.back (fun _ k => XS.iload X1.here hx rfl (hb hby at_11) rfl k) ?_
  have f_5 : Sta Z T1.heap "java/lang/String" "COMPACT_STRINGS" "Z" (.int cs) := own_staKeep S_cs Kq1 all0
  have f_6 : Sta Z T1.heap "com/example/liken/liken/core/Token$Abstraction" "NAME" "Lcom/example/liken/liken/core/Token$Abstraction;" (.ref w_NAME) := own_staKeep S_wNAME Kq1 all0
  have f_7 : Sta Z T1.heap "com/example/liken/liken/core/Token$Abstraction" "SYNTAX" "Lcom/example/liken/liken/core/Token$Abstraction;" (.ref w_SYNTAX) := own_staKeep S_wSYNTAX Kq1 all0
  have f_8 : Sta Z T1.heap "com/example/liken/liken/core/Token$Abstraction" "KEPT" "Lcom/example/liken/liken/core/Token$Abstraction;" (.ref w_KEPT) := own_staKeep S_wKEPT Kq1 all0
  obtain ⟨_, _, ⟨T4, L4, k4, n4⟩, -, Xc4, hSc4, hgc4, ⟨Lc4, hQ4, l4, y4, z4⟩, st4⟩ := callSS X1 hx (y := (⟨"com/example/liken/liken/core/TokenSliceHeldPinLaw", "tok", "(I)Lcom/example/liken/liken/core/Token;"⟩ : MethodName)) hown1 (mvT hZ1 (hw _ (own_m 0 rfl))) (mvT hZ1 (hw _ (own_m 1 rfl))) (mvT hZ1 (hw _ (own_m 2 rfl))) (mvT hZ1 (hw _ (own_m 3 rfl))) (by decide) (backOfS (W := 0) (rm1 l Z a0 hw [] p4 cs w_NAME w_SYNTAX w_KEPT T1.heap n0 Z2 f_5 (hcs) f_6 f_7 f_8) hZ1 (hw _ (own_m 3 rfl)) (hw _ (own_m 2 rfl)) (by decide) (by decide)) (g := (mkF m 13 #[.val (.int p0), .val (.int p1), .val (.int p2), .val (.int p3), .val (.int p4), .val (.int p5), .val (.int (p0 &&& (3 : Int32))), .val (.ref tk_1), .unset, .unset, .unset, .unset, .unset, .unset, .unset, .unset, .unset, .unset, .unset] [(.int p4)])) rfl (by rw [hml]; rfl) (argsL := [(.int p4)]) (rest := []) (lenOf own_pd565 rfl) rfl (by show 2 * 0 + _ ≤ _; exact Nat.le_of_eq rfl) (hb hby at_13) (fun _ _ => ⟨rfl, rfl, (by decide : 12 + 12 ≤ _), (by decide : 103 + 103 ≤ _)⟩)
  dsimp only [Pt.U, Pt.locs, Pt.cells, Pt.slots] at Xc4 hSc4 hgc4 l4 y4 z4 st4 hQ4
  subst l4 y4 z4
  obtain ⟨X4, hS4, hZ4, hown4⟩ := rebS hS1 (Nat.le_refl _) Xc4 hSc4 hgc4 hZ1 hown1
  obtain ⟨tk_4, rfl, N4q, Kq4, o4_0, o4_1⟩ := hQ4
  have N4 := Fr.app N1 N4q
  have Z9 : n0 ≤ T4.heap.size := Nat.le_trans Z2 Kq4.1
  have hk10 := Nat.le_trans (Nat.le_refl _) Kq4.1
  have g_tk_4 : n0 ≤ tk_4 := Nat.le_trans Z2 o4_0
  refine Good.back (fun _ k => st4.trans k) ?_
  show Good p e below _ (T4.setTop (mkF m 16 #[.val (.int p0), .val (.int p1), .val (.int p2), .val (.int p3), .val (.int p4), .val (.int p5), .val (.int (p0 &&& (3 : Int32))), .val (.ref tk_1), .unset, .unset, .unset, .unset, .unset, .unset, .unset, .unset, .unset, .unset, .unset] [(.ref tk_4)]))
  refine Good.back (fun _ k => XS.astore X4.here hx rfl (hb hby at_16) rfl rfl (l' := #[.val (.int p0), .val (.int p1), .val (.int p2), .val (.int p3), .val (.int p4), .val (.int p5), .val (.int (p0 &&& (3 : Int32))), .val (.ref tk_1), .val (.ref tk_4), .unset, .unset, .unset, .unset, .unset, .unset, .unset, .unset, .unset, .unset]) rfl k) ?_
  refine Good.back (fun _ k => XS.iload X4.here hx rfl (hb hby at_18) rfl k) ?_
  have f_12 : Sta Z T4.heap "java/lang/String" "COMPACT_STRINGS" "Z" (.int cs) := own_staKeep f_5 Kq4 all0
  have f_13 : Sta Z T4.heap "com/example/liken/liken/core/Token$Abstraction" "NAME" "Lcom/example/liken/liken/core/Token$Abstraction;" (.ref w_NAME) := own_staKeep f_6 Kq4 all0
  have f_14 : Sta Z T4.heap "com/example/liken/liken/core/Token$Abstraction" "SYNTAX" "Lcom/example/liken/liken/core/Token$Abstraction;" (.ref w_SYNTAX) := own_staKeep f_7 Kq4 all0
  have f_15 : Sta Z T4.heap "com/example/liken/liken/core/Token$Abstraction" "KEPT" "Lcom/example/liken/liken/core/Token$Abstraction;" (.ref w_KEPT) := own_staKeep f_8 Kq4 all0
  obtain ⟨_, _, ⟨T11, L11, k11, n11⟩, -, Xc11, hSc11, hgc11, ⟨Lc11, hQ11, l11, y11, z11⟩, st11⟩ := callSS X4 hx (y := (⟨"com/example/liken/liken/core/TokenSliceHeldPinLaw", "tok", "(I)Lcom/example/liken/liken/core/Token;"⟩ : MethodName)) hown4 (mvT hZ4 (hw _ (own_m 0 rfl))) (mvT hZ4 (hw _ (own_m 1 rfl))) (mvT hZ4 (hw _ (own_m 2 rfl))) (mvT hZ4 (hw _ (own_m 3 rfl))) (by decide) (backOfS (W := 0) (rm1 l Z a0 hw [] p5 cs w_NAME w_SYNTAX w_KEPT T4.heap n0 Z9 f_12 (hcs) f_13 f_14 f_15) hZ4 (hw _ (own_m 3 rfl)) (hw _ (own_m 2 rfl)) (by decide) (by decide)) (g := (mkF m 20 #[.val (.int p0), .val (.int p1), .val (.int p2), .val (.int p3), .val (.int p4), .val (.int p5), .val (.int (p0 &&& (3 : Int32))), .val (.ref tk_1), .val (.ref tk_4), .unset, .unset, .unset, .unset, .unset, .unset, .unset, .unset, .unset, .unset] [(.int p5)])) rfl (by rw [hml]; rfl) (argsL := [(.int p5)]) (rest := []) (lenOf own_pd565 rfl) rfl (by show 2 * 0 + _ ≤ _; exact Nat.le_of_eq rfl) (hb hby at_20) (fun _ _ => ⟨rfl, rfl, (by decide : 24 + 12 ≤ _), (by decide : 206 + 103 ≤ _)⟩)
  dsimp only [Pt.U, Pt.locs, Pt.cells, Pt.slots] at Xc11 hSc11 hgc11 l11 y11 z11 st11 hQ11
  subst l11 y11 z11
  obtain ⟨X11, hS11, hZ11, hown11⟩ := rebS hS4 (Nat.le_refl _) Xc11 hSc11 hgc11 hZ4 hown4
  obtain ⟨tk_11, rfl, N11q, Kq11, o11_0, o11_1⟩ := hQ11
  have N11 := Fr.app N4 N11q
  have Z16 : n0 ≤ T11.heap.size := Nat.le_trans Z9 Kq11.1
  have hk17 := Nat.le_trans (Nat.le_refl _) Kq11.1
  have g_tk_11 : n0 ≤ tk_11 := Nat.le_trans Z9 o11_0
  refine Good.back (fun _ k => st11.trans k) ?_
  show Good p e below _ (T11.setTop (mkF m 23 #[.val (.int p0), .val (.int p1), .val (.int p2), .val (.int p3), .val (.int p4), .val (.int p5), .val (.int (p0 &&& (3 : Int32))), .val (.ref tk_1), .val (.ref tk_4), .unset, .unset, .unset, .unset, .unset, .unset, .unset, .unset, .unset, .unset] [(.ref tk_11)]))
  refine Good.back (fun _ k => XS.astore X11.here hx rfl (hb hby at_23) rfl rfl (l' := #[.val (.int p0), .val (.int p1), .val (.int p2), .val (.int p3), .val (.int p4), .val (.int p5), .val (.int (p0 &&& (3 : Int32))), .val (.ref tk_1), .val (.ref tk_4), .val (.ref tk_11), .unset, .unset, .unset, .unset, .unset, .unset, .unset, .unset, .unset]) rfl k) ?_
  obtain ⟨T18, h18, X18, e18, E18, A18, D18, -, st18⟩ := newO X11 hx hZ11 hown11 (hw _ (own_m 80 rfl)) (hw _ (own_m 81 rfl)) (hw _ (own_m 82 rfl)) rfl (g := (mkF m 25 #[.val (.int p0), .val (.int p1), .val (.int p2), .val (.int p3), .val (.int p4), .val (.int p5), .val (.int (p0 &&& (3 : Int32))), .val (.ref tk_1), .val (.ref tk_4), .val (.ref tk_11), .unset, .unset, .unset, .unset, .unset, .unset, .unset, .unset, .unset] [])) rfl (hb hby at_25) (by decide) (by decide)
  obtain ⟨b18, g18⟩ : ∃ z, z = T11.heap.size := ⟨_, rfl⟩
  rw [← g18] at A18 D18 st18
  refine Good.back st18 ?_
  have g_b18 : n0 ≤ b18 := Nat.le_trans Z16 (Nat.le_of_eq g18.symm)
  have Z19 : n0 ≤ h18.size := Nat.le_trans Z16 E18.1
  have hk20 := Nat.le_trans (Nat.le_refl _) E18.1
  have f_21 : Exa Z h18 b18 "java/util/ArrayList" := A18
  have f_22 : Fld Z h18 b18 "java/util/AbstractList" "modCount" "I" (.int (0 : Int32)) := D18 (Or.inl (hw _ (own_m 100 rfl))) (ty := .int) (by decide)
  have f_23 : Fld Z h18 b18 "java/util/ArrayList" "elementData" "[Ljava/lang/Object;" .null := D18 (Or.inl (hw _ (own_m 103 rfl))) (ty := (.array (.object "java/lang/Object"))) (by decide)
  have f_24 : Fld Z h18 b18 "java/util/ArrayList" "size" "I" (.int (0 : Int32)) := D18 (Or.inl (hw _ (own_m 136 rfl))) (ty := .int) (by decide)
  refine Good.back (fun _ k => XS.dup X18.here hx rfl (hb hby at_28) rfl rfl k) ?_
  have f_26 : Sta Z T1.heap "java/util/ArrayList" "DEFAULTCAPACITY_EMPTY_ELEMENTDATA" "[Ljava/lang/Object;" (.ref de) := own_staKeep S_de Kq1 all0
  have f_27 : Sta Z T4.heap "java/util/ArrayList" "DEFAULTCAPACITY_EMPTY_ELEMENTDATA" "[Ljava/lang/Object;" (.ref de) := own_staKeep f_26 Kq4 all0
  have f_28 : Sta Z T11.heap "java/util/ArrayList" "DEFAULTCAPACITY_EMPTY_ELEMENTDATA" "[Ljava/lang/Object;" (.ref de) := own_staKeep f_27 Kq11 all0
  have f_29 : Sta Z h18 "java/util/ArrayList" "DEFAULTCAPACITY_EMPTY_ELEMENTDATA" "[Ljava/lang/Object;" (.ref de) := Sta.ext E18 f_28
  obtain ⟨_, _, ⟨T25, L25, k25, n25⟩, -, X25, ⟨Lc25, hQ25, l25, y25, z25⟩, st25⟩ := X18.specialBack hx (y := (⟨"java/util/ArrayList", "<init>", "()V"⟩ : MethodName)) rfl hown11 (mvT hZ11 (hw _ (own_m 83 rfl))) (mvT hZ11 (hw _ (own_m 84 rfl))) (mvT hZ11 (hw _ (own_m 85 rfl))) (by decide) (backOf (W := 1) (rm15 l Z a0 hw [] b18 de h18 n0 Z19 f_21 g_b18 f_22 f_23 f_24 f_29) hZ11 (hw _ (own_m 85 rfl)) (hw _ (own_m 82 rfl)) (by decide) (by decide)) (g := (mkF m 29 #[.val (.int p0), .val (.int p1), .val (.int p2), .val (.int p3), .val (.int p4), .val (.int p5), .val (.int (p0 &&& (3 : Int32))), .val (.ref tk_1), .val (.ref tk_4), .val (.ref tk_11), .unset, .unset, .unset, .unset, .unset, .unset, .unset, .unset, .unset] [(.ref b18), (.ref b18)])) rfl (by rw [hml]; rfl) (Steps.refl _) (a := b18) (argsL := []) (rest := [(.ref b18)]) (lenOf own_pd122 rfl) rfl (by show 2 * 0 + _ ≤ _; exact Nat.le_of_eq rfl) (hb hby at_29) (fun _ _ => ⟨rfl, e18, (by decide : 37 + 0 ≤ _), (by decide : 312 + 0 ≤ _)⟩)
  dsimp only [Pt.U, Pt.locs, Pt.cells, Pt.slots] at X25 l25 y25 z25 st25 hQ25
  subst l25 y25 z25
  obtain ⟨rfl, N25q, Kq25, o25_0, o25_1, o25_2⟩ := hQ25
  have N25 := Fr.app N11 N25q
  have Z30 : n0 ≤ T25.heap.size := Nat.le_trans Z19 Kq25.1
  have hk31 := Nat.le_trans hk20 Kq25.1
  refine Good.back (fun _ k => st25.trans k) ?_
  show Good p e below _ (T25.setTop (mkF m 32 #[.val (.int p0), .val (.int p1), .val (.int p2), .val (.int p3), .val (.int p4), .val (.int p5), .val (.int (p0 &&& (3 : Int32))), .val (.ref tk_1), .val (.ref tk_4), .val (.ref tk_11), .unset, .unset, .unset, .unset, .unset, .unset, .unset, .unset, .unset] [(.ref b18)]))
  refine Good.back (fun _ k => XS.astore X25.here hx rfl (hb hby at_32) rfl rfl (l' := #[.val (.int p0), .val (.int p1), .val (.int p2), .val (.int p3), .val (.int p4), .val (.int p5), .val (.int (p0 &&& (3 : Int32))), .val (.ref tk_1), .val (.ref tk_4), .val (.ref tk_11), .val (.ref b18), .unset, .unset, .unset, .unset, .unset, .unset, .unset, .unset]) rfl k) ?_
  show Good p e below _ (T25.setTop (mkF m 34 #[.val (.int p0), .val (.int p1), .val (.int p2), .val (.int p3), .val (.int p4), .val (.int p5), .val (.int (p0 &&& (3 : Int32))), .val (.ref tk_1), .val (.ref tk_4), .val (.ref tk_11), .val (.ref b18), .unset, .unset, .unset, .unset, .unset, .unset, .unset, .unset] []))
  have key186 : ∀ (nn : Int32) (ts : Addr) (al : Addr) (Hk : Heap) (Tk186 : State) (lk186 : List Loc) (Xk186 : Stand p l e room_1 (s.setVm T11.vm) m #[(.int p0), (.int p1), (.int p2), (.int p3), (.int p4), (.int p5)] below meth c Tk186 lk186 60 3000) (Nk186 : Fr n0 lk186) (ek186 : Tk186.heap = Hk) (Zk : n0 ≤ Hk.size) (hkk : T11.heap.size ≤ Hk.size) (Ek : Exa Z Hk ts "com/example/liken/liken/core/TokenSlice") (Fka : Fld Z Hk ts "com/example/liken/liken/core/TokenSlice" "all" "Ljava/util/List;" (.ref al)) (Fkf : Fld Z Hk ts "com/example/liken/liken/core/TokenSlice" "from" "I" (.int (0 : Int32))) (Fks : Fld Z Hk ts "com/example/liken/liken/core/TokenSlice" "size" "I" (.int nn)) (hnn : 0 ≤ nn.toInt ∧ nn.toInt ≤ 3), Good p e below (fun o U' => ∃ v L, o = .returned v ∧ Q0 Z p0 p1 p2 p3 p4 p5 cs w_NAME w_SYNTAX w_KEPT de kd el ea ke em mr h0 n0 v U'.heap L ∧ ReturnedEndW s o U' L 72 3328) (Tk186.setTop (mkF m 186 #[.val (.int p0), .val (.int p1), .val (.int p2), .val (.int p3), .val (.int p4), .val (.int p5), .val (.int nn), .val (.ref tk_1), .val (.ref tk_4), .val (.ref tk_11), .val (.ref b18), .val (.ref ts), .val (.ref al), .unset, .unset, .unset, .unset, .unset, .unset] [])) := by
    intro nn ts al Hk Tk186 lk186 Xk186 Nk186 ek186 Zk hkk Ek Fka Fkf Fks hnn
    refine Good.back (fun _ k => XS.iloadN Xk186.here hx rfl (hb hby at_186) rfl k) ?_
    have hn1 := own_ad1 nn hnn.1 hnn.2
    show Good p e below _ (Tk186.setTop (mkF m 187 #[.val (.int p0), .val (.int p1), .val (.int p2), .val (.int p3), .val (.int p4), .val (.int p5), .val (.int nn), .val (.ref tk_1), .val (.ref tk_4), .val (.ref tk_11), .val (.ref b18), .val (.ref ts), .val (.ref al), .unset, .unset, .unset, .unset, .unset, .unset] [(.int p1)]))
    refine Good.back (fun _ k => XS.sipush Xk186.here hx rfl (hb hby at_187) k) ?_
    show Good p e below _ (Tk186.setTop (mkF m 190 #[.val (.int p0), .val (.int p1), .val (.int p2), .val (.int p3), .val (.int p4), .val (.int p5), .val (.int nn), .val (.ref tk_1), .val (.ref tk_4), .val (.ref tk_11), .val (.ref b18), .val (.ref ts), .val (.ref al), .unset, .unset, .unset, .unset, .unset, .unset] [(.int (255 : Int32)), (.int p1)]))
    refine Good.back (fun _ k => XS.iand Xk186.here hx rfl (hb hby at_190) rfl k) ?_
    show Good p e below _ (Tk186.setTop (mkF m 191 #[.val (.int p0), .val (.int p1), .val (.int p2), .val (.int p3), .val (.int p4), .val (.int p5), .val (.int nn), .val (.ref tk_1), .val (.ref tk_4), .val (.ref tk_11), .val (.ref b18), .val (.ref ts), .val (.ref al), .unset, .unset, .unset, .unset, .unset, .unset] [(.int (p1 &&& (255 : Int32)))]))
    refine Good.back (fun _ k => XS.iload Xk186.here hx rfl (hb hby at_191) rfl k) ?_
    refine Good.back (fun _ k => XS.iconst Xk186.here hx rfl (hb hby at_193) k) ?_
    show Good p e below _ (Tk186.setTop (mkF m 194 #[.val (.int p0), .val (.int p1), .val (.int p2), .val (.int p3), .val (.int p4), .val (.int p5), .val (.int nn), .val (.ref tk_1), .val (.ref tk_4), .val (.ref tk_11), .val (.ref b18), .val (.ref ts), .val (.ref al), .unset, .unset, .unset, .unset, .unset, .unset] [(.int (1 : Int32)), (.int nn), (.int (p1 &&& (255 : Int32)))]))
    refine Good.back (fun _ k => XS.iadd Xk186.here hx rfl (hb hby at_194) rfl k) ?_
    show Good p e below _ (Tk186.setTop (mkF m 195 #[.val (.int p0), .val (.int p1), .val (.int p2), .val (.int p3), .val (.int p4), .val (.int p5), .val (.int nn), .val (.ref tk_1), .val (.ref tk_4), .val (.ref tk_11), .val (.ref b18), .val (.ref ts), .val (.ref al), .unset, .unset, .unset, .unset, .unset, .unset] [(.int (nn + (1 : Int32))), (.int (p1 &&& (255 : Int32)))]))
    refine Good.back (fun _ k => iremM (g := (mkF m 195 #[.val (.int p0), .val (.int p1), .val (.int p2), .val (.int p3), .val (.int p4), .val (.int p5), .val (.int nn), .val (.ref tk_1), .val (.ref tk_4), .val (.ref tk_11), .val (.ref b18), .val (.ref ts), .val (.ref al), .unset, .unset, .unset, .unset, .unset, .unset] [(.int (nn + (1 : Int32))), (.int (p1 &&& (255 : Int32)))])) Xk186 hx rfl (hb hby at_195) rfl (own_nz hn1 (by omega)) k) ?_
    show Good p e below _ (Tk186.setTop (mkF m 196 #[.val (.int p0), .val (.int p1), .val (.int p2), .val (.int p3), .val (.int p4), .val (.int p5), .val (.int nn), .val (.ref tk_1), .val (.ref tk_4), .val (.ref tk_11), .val (.ref b18), .val (.ref ts), .val (.ref al), .unset, .unset, .unset, .unset, .unset, .unset] [(.int ((p1 &&& (255 : Int32)) % (nn + (1 : Int32))))]))
    obtain ⟨fr, efr⟩ : ∃ z, z = ((p1 &&& (255 : Int32)) % (nn + (1 : Int32))) := ⟨_, rfl⟩
    rw [← efr]
    have hfr : 0 ≤ fr.toInt ∧ fr.toInt < nn.toInt + 1 := by rw [efr]; exact own_rem p1 _ _ hn1 (by omega)
    have hd1 := own_d1 nn fr nn.toInt rfl hfr.1 (by omega) (by omega)
    show Good p e below _ (Tk186.setTop (mkF m 196 #[.val (.int p0), .val (.int p1), .val (.int p2), .val (.int p3), .val (.int p4), .val (.int p5), .val (.int nn), .val (.ref tk_1), .val (.ref tk_4), .val (.ref tk_11), .val (.ref b18), .val (.ref ts), .val (.ref al), .unset, .unset, .unset, .unset, .unset, .unset] [(.int fr)]))
    refine Good.back (fun _ k => XS.istore Xk186.here hx rfl (hb hby at_196) rfl (l' := #[.val (.int p0), .val (.int p1), .val (.int p2), .val (.int p3), .val (.int p4), .val (.int p5), .val (.int nn), .val (.ref tk_1), .val (.ref tk_4), .val (.ref tk_11), .val (.ref b18), .val (.ref ts), .val (.ref al), .val (.int fr), .unset, .unset, .unset, .unset, .unset]) rfl k) ?_
    refine Good.back (fun _ k => XS.iload Xk186.here hx rfl (hb hby at_198) rfl k) ?_
    refine Good.back (fun _ k => XS.iloadN Xk186.here hx rfl (hb hby at_200) rfl k) ?_
    refine Good.back (fun _ k => XS.sipush Xk186.here hx rfl (hb hby at_201) k) ?_
    show Good p e below _ (Tk186.setTop (mkF m 204 #[.val (.int p0), .val (.int p1), .val (.int p2), .val (.int p3), .val (.int p4), .val (.int p5), .val (.int nn), .val (.ref tk_1), .val (.ref tk_4), .val (.ref tk_11), .val (.ref b18), .val (.ref ts), .val (.ref al), .val (.int fr), .unset, .unset, .unset, .unset, .unset] [(.int (255 : Int32)), (.int p2), (.int fr)]))
    refine Good.back (fun _ k => XS.iand Xk186.here hx rfl (hb hby at_204) rfl k) ?_
    show Good p e below _ (Tk186.setTop (mkF m 205 #[.val (.int p0), .val (.int p1), .val (.int p2), .val (.int p3), .val (.int p4), .val (.int p5), .val (.int nn), .val (.ref tk_1), .val (.ref tk_4), .val (.ref tk_11), .val (.ref b18), .val (.ref ts), .val (.ref al), .val (.int fr), .unset, .unset, .unset, .unset, .unset] [(.int (p2 &&& (255 : Int32))), (.int fr)]))
    refine Good.back (fun _ k => XS.iload Xk186.here hx rfl (hb hby at_205) rfl k) ?_
    refine Good.back (fun _ k => XS.iload Xk186.here hx rfl (hb hby at_207) rfl k) ?_
    show Good p e below _ (Tk186.setTop (mkF m 209 #[.val (.int p0), .val (.int p1), .val (.int p2), .val (.int p3), .val (.int p4), .val (.int p5), .val (.int nn), .val (.ref tk_1), .val (.ref tk_4), .val (.ref tk_11), .val (.ref b18), .val (.ref ts), .val (.ref al), .val (.int fr), .unset, .unset, .unset, .unset, .unset] [(.int fr), (.int nn), (.int (p2 &&& (255 : Int32))), (.int fr)]))
    refine Good.back (fun _ k => XS.isub Xk186.here hx rfl (hb hby at_209) rfl k) ?_
    show Good p e below _ (Tk186.setTop (mkF m 210 #[.val (.int p0), .val (.int p1), .val (.int p2), .val (.int p3), .val (.int p4), .val (.int p5), .val (.int nn), .val (.ref tk_1), .val (.ref tk_4), .val (.ref tk_11), .val (.ref b18), .val (.ref ts), .val (.ref al), .val (.int fr), .unset, .unset, .unset, .unset, .unset] [(.int (nn - fr)), (.int (p2 &&& (255 : Int32))), (.int fr)]))
    refine Good.back (fun _ k => XS.iconst Xk186.here hx rfl (hb hby at_210) k) ?_
    show Good p e below _ (Tk186.setTop (mkF m 211 #[.val (.int p0), .val (.int p1), .val (.int p2), .val (.int p3), .val (.int p4), .val (.int p5), .val (.int nn), .val (.ref tk_1), .val (.ref tk_4), .val (.ref tk_11), .val (.ref b18), .val (.ref ts), .val (.ref al), .val (.int fr), .unset, .unset, .unset, .unset, .unset] [(.int (1 : Int32)), (.int (nn - fr)), (.int (p2 &&& (255 : Int32))), (.int fr)]))
    refine Good.back (fun _ k => XS.iadd Xk186.here hx rfl (hb hby at_211) rfl k) ?_
    show Good p e below _ (Tk186.setTop (mkF m 212 #[.val (.int p0), .val (.int p1), .val (.int p2), .val (.int p3), .val (.int p4), .val (.int p5), .val (.int nn), .val (.ref tk_1), .val (.ref tk_4), .val (.ref tk_11), .val (.ref b18), .val (.ref ts), .val (.ref al), .val (.int fr), .unset, .unset, .unset, .unset, .unset] [(.int ((nn - fr) + (1 : Int32))), (.int (p2 &&& (255 : Int32))), (.int fr)]))
    refine Good.back (fun _ k => iremM (g := (mkF m 212 #[.val (.int p0), .val (.int p1), .val (.int p2), .val (.int p3), .val (.int p4), .val (.int p5), .val (.int nn), .val (.ref tk_1), .val (.ref tk_4), .val (.ref tk_11), .val (.ref b18), .val (.ref ts), .val (.ref al), .val (.int fr), .unset, .unset, .unset, .unset, .unset] [(.int ((nn - fr) + (1 : Int32))), (.int (p2 &&& (255 : Int32))), (.int fr)])) Xk186 hx rfl (hb hby at_212) rfl (own_nz hd1 (by omega)) k) ?_
    show Good p e below _ (Tk186.setTop (mkF m 213 #[.val (.int p0), .val (.int p1), .val (.int p2), .val (.int p3), .val (.int p4), .val (.int p5), .val (.int nn), .val (.ref tk_1), .val (.ref tk_4), .val (.ref tk_11), .val (.ref b18), .val (.ref ts), .val (.ref al), .val (.int fr), .unset, .unset, .unset, .unset, .unset] [(.int ((p2 &&& (255 : Int32)) % ((nn - fr) + (1 : Int32)))), (.int fr)]))
    obtain ⟨t1, et1⟩ : ∃ z, z = ((p2 &&& (255 : Int32)) % ((nn - fr) + (1 : Int32))) := ⟨_, rfl⟩
    rw [← et1]
    have ht1 : 0 ≤ t1.toInt ∧ t1.toInt < nn.toInt - fr.toInt + 1 := by rw [et1]; exact own_rem p2 _ _ hd1 (by omega)
    have had := own_ad fr t1 hfr.1 ht1.1 (by omega)
    show Good p e below _ (Tk186.setTop (mkF m 213 #[.val (.int p0), .val (.int p1), .val (.int p2), .val (.int p3), .val (.int p4), .val (.int p5), .val (.int nn), .val (.ref tk_1), .val (.ref tk_4), .val (.ref tk_11), .val (.ref b18), .val (.ref ts), .val (.ref al), .val (.int fr), .unset, .unset, .unset, .unset, .unset] [(.int t1), (.int fr)]))
    refine Good.back (fun _ k => XS.iadd Xk186.here hx rfl (hb hby at_213) rfl k) ?_
    show Good p e below _ (Tk186.setTop (mkF m 214 #[.val (.int p0), .val (.int p1), .val (.int p2), .val (.int p3), .val (.int p4), .val (.int p5), .val (.int nn), .val (.ref tk_1), .val (.ref tk_4), .val (.ref tk_11), .val (.ref b18), .val (.ref ts), .val (.ref al), .val (.int fr), .unset, .unset, .unset, .unset, .unset] [(.int (fr + t1))]))
    refine Good.back (fun _ k => XS.istore Xk186.here hx rfl (hb hby at_214) rfl (l' := #[.val (.int p0), .val (.int p1), .val (.int p2), .val (.int p3), .val (.int p4), .val (.int p5), .val (.int nn), .val (.ref tk_1), .val (.ref tk_4), .val (.ref tk_11), .val (.ref b18), .val (.ref ts), .val (.ref al), .val (.int fr), .val (.int (fr + t1)), .unset, .unset, .unset, .unset]) rfl k) ?_
    refine Good.back (fun _ k => XS.aload Xk186.here hx rfl (hb hby at_216) rfl rfl k) ?_
    refine Good.back (fun _ k => XS.iload Xk186.here hx rfl (hb hby at_218) rfl k) ?_
    refine Good.back (fun _ k => XS.iload Xk186.here hx rfl (hb hby at_220) rfl k) ?_
    obtain ⟨cq32, kq32, q32a, q32b, q32c⟩ := isOf hZ11 ek186 Ek
    obtain ⟨_, _, ⟨T32, L32, k32, n32⟩, -, X32, ⟨Lc32, hQ32, l32, y32, z32⟩, st32⟩ := Xk186.virtualBack hx (y := (⟨"com/example/liken/liken/core/TokenSlice", "subList", "(II)Lcom/example/liken/liken/core/TokenSlice;"⟩ : MethodName)) (z := (⟨"com/example/liken/liken/core/TokenSlice", "subList", "(II)Lcom/example/liken/liken/core/TokenSlice;"⟩ : MethodName)) hown11 (mvT hZ11 (hw _ (own_m 168 rfl))) (mvT hZ11 (hw _ (own_m 169 rfl))) (notFace_of_selects (args := #[]) (mvT hZ11 (hw _ (own_m 171 rfl)))) (mvT hZ11 (hw _ (own_m 171 rfl))) (mvT hZ11 (hw _ (own_m 170 rfl))) (by decide) (backOf (W := 0) (rm26 l Z a0 hw [] ts fr (fr + t1) al (0 : Int32) nn Hk n0 Zk Ek Fka Fkf Fks (own_lt (show (0 : Int32).toInt ≤ _ from hfr.1)) (own_lt (by rw [had.1]; omega)) (own_lt (by rw [had.1]; omega))) hZ11 (hw _ (own_m 172 rfl)) (hw _ (own_m 106 rfl)) (by decide) (by decide)) q32a q32c (g := (mkF m 222 #[.val (.int p0), .val (.int p1), .val (.int p2), .val (.int p3), .val (.int p4), .val (.int p5), .val (.int nn), .val (.ref tk_1), .val (.ref tk_4), .val (.ref tk_11), .val (.ref b18), .val (.ref ts), .val (.ref al), .val (.int fr), .val (.int (fr + t1)), .unset, .unset, .unset, .unset] [(.int (fr + t1)), (.int fr), (.ref ts)])) rfl (by rw [hml]; rfl) (Steps.refl _) (argsL := [(.int fr), (.int (fr + t1))]) (rest := []) (lenOf own_pd566 rfl) rfl (by show 2 * 0 + _ ≤ _; exact Nat.le_of_eq rfl) (hb hby at_222) (fun _ _ => ⟨rfl, ek186, (by decide : 60 + 1 ≤ _), (by decide : 3000 + 4 ≤ _)⟩)
    dsimp only [Pt.U, Pt.locs, Pt.cells, Pt.slots] at X32 l32 y32 z32 st32 hQ32
    subst l32 y32 z32
    obtain ⟨ts_32, rfl, N32q, Kq32, o32_0, o32_1, o32_2, o32_3, o32_4⟩ := hQ32
    have N32 := Fr.app Nk186 N32q
    have Z33 : n0 ≤ T32.heap.size := Nat.le_trans Zk Kq32.1
    have hk34 := Nat.le_trans hkk Kq32.1
    have g_ts_32 : n0 ≤ ts_32 := Nat.le_trans Zk o32_0
    refine Good.back (fun _ k => st32.trans k) ?_
    show Good p e below _ (T32.setTop (mkF m 225 #[.val (.int p0), .val (.int p1), .val (.int p2), .val (.int p3), .val (.int p4), .val (.int p5), .val (.int nn), .val (.ref tk_1), .val (.ref tk_4), .val (.ref tk_11), .val (.ref b18), .val (.ref ts), .val (.ref al), .val (.int fr), .val (.int (fr + t1)), .unset, .unset, .unset, .unset] [(.ref ts_32)]))
    refine Good.back (fun _ k => XS.astore X32.here hx rfl (hb hby at_225) rfl rfl (l' := #[.val (.int p0), .val (.int p1), .val (.int p2), .val (.int p3), .val (.int p4), .val (.int p5), .val (.int nn), .val (.ref tk_1), .val (.ref tk_4), .val (.ref tk_11), .val (.ref b18), .val (.ref ts), .val (.ref al), .val (.int fr), .val (.int (fr + t1)), .val (.ref ts_32), .unset, .unset, .unset]) rfl k) ?_
    refine Good.back (fun _ k => XS.aload X32.here hx rfl (hb hby at_227) rfl rfl k) ?_
    obtain ⟨_, _, ⟨T35, L35, k35, n35⟩, -, X35, ⟨Lc35, hQ35, l35, y35, z35⟩, st35⟩ := Jvm.LawKit.callS X32 hx (y := (⟨"com/example/liken/liken/core/TokenSlice", "held", "(Ljava/util/List;)Ljava/util/List;"⟩ : MethodName)) hown11 (mvT hZ11 (hw _ (own_m 104 rfl))) (mvT hZ11 (hw _ (own_m 105 rfl))) (mvT hZ11 (hw _ (own_m 106 rfl))) (mvT hZ11 (hw _ (own_m 107 rfl))) (by decide) (backOf (W := 0) (rm18T l Z a0 hw [] ts_32 al T32.heap n0 Z33 o32_1 o32_2) hZ11 (hw _ (own_m 107 rfl)) (hw _ (own_m 106 rfl)) (by decide) (by decide)) (g := (mkF m 229 #[.val (.int p0), .val (.int p1), .val (.int p2), .val (.int p3), .val (.int p4), .val (.int p5), .val (.int nn), .val (.ref tk_1), .val (.ref tk_4), .val (.ref tk_11), .val (.ref b18), .val (.ref ts), .val (.ref al), .val (.int fr), .val (.int (fr + t1)), .val (.ref ts_32), .unset, .unset, .unset] [(.ref ts_32)])) rfl (by rw [hml]; rfl) (argsL := [(.ref ts_32)]) (rest := []) (lenOf own_pd567 rfl) rfl (by show 2 * 0 + _ ≤ _; exact Nat.le_of_eq rfl) (hb hby at_229) (fun _ _ => ⟨rfl, rfl, (by decide : 61 + 0 ≤ _), (by decide : 3004 + 0 ≤ _)⟩)
    dsimp only [Pt.U, Pt.locs, Pt.cells, Pt.slots] at X35 l35 y35 z35 st35 hQ35
    subst l35 y35 z35
    obtain ⟨rfl, N35q, eh35⟩ := hQ35
    have N35 := Fr.app N32 N35q
    refine Good.back st35 ?_
    refine Good.back (fun _ k => XS.aload X35.here hx rfl (hb hby at_232) rfl rfl k) ?_
    show Good p e below _ (T35.setTop (mkF m 234 #[.val (.int p0), .val (.int p1), .val (.int p2), .val (.int p3), .val (.int p4), .val (.int p5), .val (.int nn), .val (.ref tk_1), .val (.ref tk_4), .val (.ref tk_11), .val (.ref b18), .val (.ref ts), .val (.ref al), .val (.int fr), .val (.int (fr + t1)), .val (.ref ts_32), .unset, .unset, .unset] [(.ref al), (.ref al)]))
    refine Good.back (fun _ k => Jvm.RoadKit.acmp (g := (mkF m 234 #[.val (.int p0), .val (.int p1), .val (.int p2), .val (.int p3), .val (.int p4), .val (.int p5), .val (.int nn), .val (.ref tk_1), .val (.ref tk_4), .val (.ref tk_11), .val (.ref b18), .val (.ref ts), .val (.ref al), .val (.int fr), .val (.int (fr + t1)), .val (.ref ts_32), .unset, .unset, .unset] [(.ref al), (.ref al)])) X35 hx rfl rfl rfl (pc0 := 234) (pc' := 239) (same := true) rfl (hb hby at_234) rfl (decide_eq_true rfl) (by decide) (by decide) k) ?_
    show Good p e below _ (T35.setTop (mkF m 239 #[.val (.int p0), .val (.int p1), .val (.int p2), .val (.int p3), .val (.int p4), .val (.int p5), .val (.int nn), .val (.ref tk_1), .val (.ref tk_4), .val (.ref tk_11), .val (.ref b18), .val (.ref ts), .val (.ref al), .val (.int fr), .val (.int (fr + t1)), .val (.ref ts_32), .unset, .unset, .unset] []))
    refine Good.back (fun _ k => XS.iload X35.here hx rfl (hb hby at_239) rfl k) ?_
    refine Good.back (fun _ k => XS.iload X35.here hx rfl (hb hby at_241) rfl k) ?_
    show Good p e below _ (T35.setTop (mkF m 243 #[.val (.int p0), .val (.int p1), .val (.int p2), .val (.int p3), .val (.int p4), .val (.int p5), .val (.int nn), .val (.ref tk_1), .val (.ref tk_4), .val (.ref tk_11), .val (.ref b18), .val (.ref ts), .val (.ref al), .val (.int fr), .val (.int (fr + t1)), .val (.ref ts_32), .unset, .unset, .unset] [(.int fr), (.int (fr + t1))]))
    refine Good.back (fun _ k => XS.isub X35.here hx rfl (hb hby at_243) rfl k) ?_
    show Good p e below _ (T35.setTop (mkF m 244 #[.val (.int p0), .val (.int p1), .val (.int p2), .val (.int p3), .val (.int p4), .val (.int p5), .val (.int nn), .val (.ref tk_1), .val (.ref tk_4), .val (.ref tk_11), .val (.ref b18), .val (.ref ts), .val (.ref al), .val (.int fr), .val (.int (fr + t1)), .val (.ref ts_32), .unset, .unset, .unset] [(.int ((fr + t1) - fr))]))
    refine Good.back (fun _ k => XS.istore X35.here hx rfl (hb hby at_244) rfl (l' := #[.val (.int p0), .val (.int p1), .val (.int p2), .val (.int p3), .val (.int p4), .val (.int p5), .val (.int nn), .val (.ref tk_1), .val (.ref tk_4), .val (.ref tk_11), .val (.ref b18), .val (.ref ts), .val (.ref al), .val (.int fr), .val (.int (fr + t1)), .val (.ref ts_32), .val (.int ((fr + t1) - fr)), .unset, .unset]) rfl k) ?_
    refine Good.back (fun _ k => XS.iloadN X35.here hx rfl (hb hby at_246) rfl k) ?_
    refine Good.back (fun _ k => XS.bipush X35.here hx rfl (hb hby at_247) k) ?_
    show Good p e below _ (T35.setTop (mkF m 249 #[.val (.int p0), .val (.int p1), .val (.int p2), .val (.int p3), .val (.int p4), .val (.int p5), .val (.int nn), .val (.ref tk_1), .val (.ref tk_4), .val (.ref tk_11), .val (.ref b18), .val (.ref ts), .val (.ref al), .val (.int fr), .val (.int (fr + t1)), .val (.ref ts_32), .val (.int ((fr + t1) - fr)), .unset, .unset] [(.int (8 : Int32)), (.int p2)]))
    refine Good.back (fun _ k => XS.iushr X35.here hx rfl (hb hby at_249) rfl k) ?_
    show Good p e below _ (T35.setTop (mkF m 250 #[.val (.int p0), .val (.int p1), .val (.int p2), .val (.int p3), .val (.int p4), .val (.int p5), .val (.int nn), .val (.ref tk_1), .val (.ref tk_4), .val (.ref tk_11), .val (.ref b18), .val (.ref ts), .val (.ref al), .val (.int fr), .val (.int (fr + t1)), .val (.ref ts_32), .val (.int ((fr + t1) - fr)), .unset, .unset] [(.int ((p2.toUInt32 >>> ((8 : Int32) &&& 31).toUInt32).toInt32))]))
    refine Good.back (fun _ k => XS.sipush X35.here hx rfl (hb hby at_250) k) ?_
    show Good p e below _ (T35.setTop (mkF m 253 #[.val (.int p0), .val (.int p1), .val (.int p2), .val (.int p3), .val (.int p4), .val (.int p5), .val (.int nn), .val (.ref tk_1), .val (.ref tk_4), .val (.ref tk_11), .val (.ref b18), .val (.ref ts), .val (.ref al), .val (.int fr), .val (.int (fr + t1)), .val (.ref ts_32), .val (.int ((fr + t1) - fr)), .unset, .unset] [(.int (255 : Int32)), (.int ((p2.toUInt32 >>> ((8 : Int32) &&& 31).toUInt32).toInt32))]))
    refine Good.back (fun _ k => XS.iand X35.here hx rfl (hb hby at_253) rfl k) ?_
    show Good p e below _ (T35.setTop (mkF m 254 #[.val (.int p0), .val (.int p1), .val (.int p2), .val (.int p3), .val (.int p4), .val (.int p5), .val (.int nn), .val (.ref tk_1), .val (.ref tk_4), .val (.ref tk_11), .val (.ref b18), .val (.ref ts), .val (.ref al), .val (.int fr), .val (.int (fr + t1)), .val (.ref ts_32), .val (.int ((fr + t1) - fr)), .unset, .unset] [(.int (((p2.toUInt32 >>> ((8 : Int32) &&& 31).toUInt32).toInt32) &&& (255 : Int32)))]))
    refine Good.back (fun _ k => XS.iload X35.here hx rfl (hb hby at_254) rfl k) ?_
    refine Good.back (fun _ k => XS.iconst X35.here hx rfl (hb hby at_256) k) ?_
    show Good p e below _ (T35.setTop (mkF m 257 #[.val (.int p0), .val (.int p1), .val (.int p2), .val (.int p3), .val (.int p4), .val (.int p5), .val (.int nn), .val (.ref tk_1), .val (.ref tk_4), .val (.ref tk_11), .val (.ref b18), .val (.ref ts), .val (.ref al), .val (.int fr), .val (.int (fr + t1)), .val (.ref ts_32), .val (.int ((fr + t1) - fr)), .unset, .unset] [(.int (1 : Int32)), (.int ((fr + t1) - fr)), (.int (((p2.toUInt32 >>> ((8 : Int32) &&& 31).toUInt32).toInt32) &&& (255 : Int32)))]))
    refine Good.back (fun _ k => XS.iadd X35.here hx rfl (hb hby at_257) rfl k) ?_
    show Good p e below _ (T35.setTop (mkF m 258 #[.val (.int p0), .val (.int p1), .val (.int p2), .val (.int p3), .val (.int p4), .val (.int p5), .val (.int nn), .val (.ref tk_1), .val (.ref tk_4), .val (.ref tk_11), .val (.ref b18), .val (.ref ts), .val (.ref al), .val (.int fr), .val (.int (fr + t1)), .val (.ref ts_32), .val (.int ((fr + t1) - fr)), .unset, .unset] [(.int (((fr + t1) - fr) + (1 : Int32))), (.int (((p2.toUInt32 >>> ((8 : Int32) &&& 31).toUInt32).toInt32) &&& (255 : Int32)))]))
    refine Good.back (fun _ k => iremM (g := (mkF m 258 #[.val (.int p0), .val (.int p1), .val (.int p2), .val (.int p3), .val (.int p4), .val (.int p5), .val (.int nn), .val (.ref tk_1), .val (.ref tk_4), .val (.ref tk_11), .val (.ref b18), .val (.ref ts), .val (.ref al), .val (.int fr), .val (.int (fr + t1)), .val (.ref ts_32), .val (.int ((fr + t1) - fr)), .unset, .unset] [(.int (((fr + t1) - fr) + (1 : Int32))), (.int (((p2.toUInt32 >>> ((8 : Int32) &&& 31).toUInt32).toInt32) &&& (255 : Int32)))])) X35 hx rfl (hb hby at_258) rfl (own_nz had.2.2 (by omega)) k) ?_
    show Good p e below _ (T35.setTop (mkF m 259 #[.val (.int p0), .val (.int p1), .val (.int p2), .val (.int p3), .val (.int p4), .val (.int p5), .val (.int nn), .val (.ref tk_1), .val (.ref tk_4), .val (.ref tk_11), .val (.ref b18), .val (.ref ts), .val (.ref al), .val (.int fr), .val (.int (fr + t1)), .val (.ref ts_32), .val (.int ((fr + t1) - fr)), .unset, .unset] [(.int ((((p2.toUInt32 >>> ((8 : Int32) &&& 31).toUInt32).toInt32) &&& (255 : Int32)) % (((fr + t1) - fr) + (1 : Int32))))]))
    obtain ⟨sv, esv⟩ : ∃ z, z = ((((p2.toUInt32 >>> ((8 : Int32) &&& 31).toUInt32).toInt32) &&& (255 : Int32)) % (((fr + t1) - fr) + (1 : Int32))) := ⟨_, rfl⟩
    rw [← esv]
    have hsv : 0 ≤ sv.toInt ∧ sv.toInt < t1.toInt + 1 := by rw [esv]; exact own_rem _ _ _ had.2.2 (by omega)
    show Good p e below _ (T35.setTop (mkF m 259 #[.val (.int p0), .val (.int p1), .val (.int p2), .val (.int p3), .val (.int p4), .val (.int p5), .val (.int nn), .val (.ref tk_1), .val (.ref tk_4), .val (.ref tk_11), .val (.ref b18), .val (.ref ts), .val (.ref al), .val (.int fr), .val (.int (fr + t1)), .val (.ref ts_32), .val (.int ((fr + t1) - fr)), .unset, .unset] [(.int sv)]))
    refine Good.back (fun _ k => XS.istore X35.here hx rfl (hb hby at_259) rfl (l' := #[.val (.int p0), .val (.int p1), .val (.int p2), .val (.int p3), .val (.int p4), .val (.int p5), .val (.int nn), .val (.ref tk_1), .val (.ref tk_4), .val (.ref tk_11), .val (.ref b18), .val (.ref ts), .val (.ref al), .val (.int fr), .val (.int (fr + t1)), .val (.ref ts_32), .val (.int ((fr + t1) - fr)), .val (.int sv), .unset]) rfl k) ?_
    refine Good.back (fun _ k => XS.aload X35.here hx rfl (hb hby at_261) rfl rfl k) ?_
    refine Good.back (fun _ k => XS.iload X35.here hx rfl (hb hby at_263) rfl k) ?_
    refine Good.back (fun _ k => XS.iload X35.here hx rfl (hb hby at_265) rfl k) ?_
    obtain ⟨cq36, kq36, q36a, q36b, q36c⟩ := isOf hZ11 eh35 o32_1
    obtain ⟨_, _, ⟨T36, L36, k36, n36⟩, -, X36, ⟨Lc36, hQ36, l36, y36, z36⟩, st36⟩ := X35.virtualBack hx (y := (⟨"com/example/liken/liken/core/TokenSlice", "subList", "(II)Lcom/example/liken/liken/core/TokenSlice;"⟩ : MethodName)) (z := (⟨"com/example/liken/liken/core/TokenSlice", "subList", "(II)Lcom/example/liken/liken/core/TokenSlice;"⟩ : MethodName)) hown11 (mvT hZ11 (hw _ (own_m 168 rfl))) (mvT hZ11 (hw _ (own_m 169 rfl))) (notFace_of_selects (args := #[]) (mvT hZ11 (hw _ (own_m 171 rfl)))) (mvT hZ11 (hw _ (own_m 171 rfl))) (mvT hZ11 (hw _ (own_m 170 rfl))) (by decide) (backOf (W := 0) (rm26 l Z a0 hw [] ts_32 sv ((fr + t1) - fr) al ((0 : Int32) + fr) ((fr + t1) - fr) T32.heap n0 Z33 o32_1 o32_2 o32_3 o32_4 (own_lt (show (0 : Int32).toInt ≤ _ from hsv.1)) (own_lt (by rw [had.2.1]; omega)) (own_lt (Int.le_refl _))) hZ11 (hw _ (own_m 172 rfl)) (hw _ (own_m 106 rfl)) (by decide) (by decide)) q36a q36c (g := (mkF m 267 #[.val (.int p0), .val (.int p1), .val (.int p2), .val (.int p3), .val (.int p4), .val (.int p5), .val (.int nn), .val (.ref tk_1), .val (.ref tk_4), .val (.ref tk_11), .val (.ref b18), .val (.ref ts), .val (.ref al), .val (.int fr), .val (.int (fr + t1)), .val (.ref ts_32), .val (.int ((fr + t1) - fr)), .val (.int sv), .unset] [(.int ((fr + t1) - fr)), (.int sv), (.ref ts_32)])) rfl (by rw [hml]; rfl) (Steps.refl _) (argsL := [(.int sv), (.int ((fr + t1) - fr))]) (rest := []) (lenOf own_pd566 rfl) rfl (by show 2 * 0 + _ ≤ _; exact Nat.le_of_eq rfl) (hb hby at_267) (fun _ _ => ⟨rfl, eh35, (by decide : 61 + 1 ≤ _), (by decide : 3004 + 4 ≤ _)⟩)
    dsimp only [Pt.U, Pt.locs, Pt.cells, Pt.slots] at X36 l36 y36 z36 st36 hQ36
    subst l36 y36 z36
    obtain ⟨ts_36, rfl, N36q, Kq36, o36_0, o36_1, o36_2, o36_3, o36_4⟩ := hQ36
    have N36 := Fr.app N35 N36q
    have Z37 : n0 ≤ T36.heap.size := Nat.le_trans Z33 Kq36.1
    have hk38 := Nat.le_trans hk34 Kq36.1
    have g_ts_36 : n0 ≤ ts_36 := Nat.le_trans Z33 o36_0
    refine Good.back (fun _ k => st36.trans k) ?_
    show Good p e below _ (T36.setTop (mkF m 270 #[.val (.int p0), .val (.int p1), .val (.int p2), .val (.int p3), .val (.int p4), .val (.int p5), .val (.int nn), .val (.ref tk_1), .val (.ref tk_4), .val (.ref tk_11), .val (.ref b18), .val (.ref ts), .val (.ref al), .val (.int fr), .val (.int (fr + t1)), .val (.ref ts_32), .val (.int ((fr + t1) - fr)), .val (.int sv), .unset] [(.ref ts_36)]))
    refine Good.back (fun _ k => XS.astore X36.here hx rfl (hb hby at_270) rfl rfl (l' := #[.val (.int p0), .val (.int p1), .val (.int p2), .val (.int p3), .val (.int p4), .val (.int p5), .val (.int nn), .val (.ref tk_1), .val (.ref tk_4), .val (.ref tk_11), .val (.ref b18), .val (.ref ts), .val (.ref al), .val (.int fr), .val (.int (fr + t1)), .val (.ref ts_32), .val (.int ((fr + t1) - fr)), .val (.int sv), .val (.ref ts_36)]) rfl k) ?_
    refine Good.back (fun _ k => XS.aload X36.here hx rfl (hb hby at_272) rfl rfl k) ?_
    obtain ⟨_, _, ⟨T39, L39, k39, n39⟩, -, X39, ⟨Lc39, hQ39, l39, y39, z39⟩, st39⟩ := Jvm.LawKit.callS X36 hx (y := (⟨"com/example/liken/liken/core/TokenSlice", "held", "(Ljava/util/List;)Ljava/util/List;"⟩ : MethodName)) hown11 (mvT hZ11 (hw _ (own_m 104 rfl))) (mvT hZ11 (hw _ (own_m 105 rfl))) (mvT hZ11 (hw _ (own_m 106 rfl))) (mvT hZ11 (hw _ (own_m 107 rfl))) (by decide) (backOf (W := 0) (rm18T l Z a0 hw [] ts_36 al T36.heap n0 Z37 o36_1 o36_2) hZ11 (hw _ (own_m 107 rfl)) (hw _ (own_m 106 rfl)) (by decide) (by decide)) (g := (mkF m 274 #[.val (.int p0), .val (.int p1), .val (.int p2), .val (.int p3), .val (.int p4), .val (.int p5), .val (.int nn), .val (.ref tk_1), .val (.ref tk_4), .val (.ref tk_11), .val (.ref b18), .val (.ref ts), .val (.ref al), .val (.int fr), .val (.int (fr + t1)), .val (.ref ts_32), .val (.int ((fr + t1) - fr)), .val (.int sv), .val (.ref ts_36)] [(.ref ts_36)])) rfl (by rw [hml]; rfl) (argsL := [(.ref ts_36)]) (rest := []) (lenOf own_pd567 rfl) rfl (by show 2 * 0 + _ ≤ _; exact Nat.le_of_eq rfl) (hb hby at_274) (fun _ _ => ⟨rfl, rfl, (by decide : 62 + 0 ≤ _), (by decide : 3008 + 0 ≤ _)⟩)
    dsimp only [Pt.U, Pt.locs, Pt.cells, Pt.slots] at X39 l39 y39 z39 st39 hQ39
    subst l39 y39 z39
    obtain ⟨rfl, N39q, eh39⟩ := hQ39
    have N39 := Fr.app N36 N39q
    refine Good.back st39 ?_
    refine Good.back (fun _ k => XS.aload X39.here hx rfl (hb hby at_277) rfl rfl k) ?_
    show Good p e below _ (T39.setTop (mkF m 279 #[.val (.int p0), .val (.int p1), .val (.int p2), .val (.int p3), .val (.int p4), .val (.int p5), .val (.int nn), .val (.ref tk_1), .val (.ref tk_4), .val (.ref tk_11), .val (.ref b18), .val (.ref ts), .val (.ref al), .val (.int fr), .val (.int (fr + t1)), .val (.ref ts_32), .val (.int ((fr + t1) - fr)), .val (.int sv), .val (.ref ts_36)] [(.ref al), (.ref al)]))
    refine Good.back (fun _ k => Jvm.RoadKit.acmp (g := (mkF m 279 #[.val (.int p0), .val (.int p1), .val (.int p2), .val (.int p3), .val (.int p4), .val (.int p5), .val (.int nn), .val (.ref tk_1), .val (.ref tk_4), .val (.ref tk_11), .val (.ref b18), .val (.ref ts), .val (.ref al), .val (.int fr), .val (.int (fr + t1)), .val (.ref ts_32), .val (.int ((fr + t1) - fr)), .val (.int sv), .val (.ref ts_36)] [(.ref al), (.ref al)])) X39 hx rfl rfl rfl (pc0 := 279) (pc' := 284) (same := true) rfl (hb hby at_279) rfl (decide_eq_true rfl) (by decide) (by decide) k) ?_
    show Good p e below _ (T39.setTop (mkF m 284 #[.val (.int p0), .val (.int p1), .val (.int p2), .val (.int p3), .val (.int p4), .val (.int p5), .val (.int nn), .val (.ref tk_1), .val (.ref tk_4), .val (.ref tk_11), .val (.ref b18), .val (.ref ts), .val (.ref al), .val (.int fr), .val (.int (fr + t1)), .val (.ref ts_32), .val (.int ((fr + t1) - fr)), .val (.int sv), .val (.ref ts_36)] []))
    refine Good.back (fun _ k => XS.iconst X39.here hx rfl (hb hby at_284) k) ?_
    show Good p e below _ (T39.setTop (mkF m 285 #[.val (.int p0), .val (.int p1), .val (.int p2), .val (.int p3), .val (.int p4), .val (.int p5), .val (.int nn), .val (.ref tk_1), .val (.ref tk_4), .val (.ref tk_11), .val (.ref b18), .val (.ref ts), .val (.ref al), .val (.int fr), .val (.int (fr + t1)), .val (.ref ts_32), .val (.int ((fr + t1) - fr)), .val (.int sv), .val (.ref ts_36)] [(.int (1 : Int32))]))
    obtain ⟨fs40, hr40, hrun40, hended40, hRE40⟩ := leaveW X39 hS11 (by rw [eh39]; exact hk38) (v := some (.int (1 : Int32))) (fun h => by rw [Bd.returns] at h; cases h)
    refine Good.done (retN X39 hx (t := .boolean) Bd.returns (by simp) (hb hby at_285) hr40) hrun40 hended40 ⟨_, _, rfl, ?_, hRE40.1, hRE40.2.1, hRE40.2.2.1, hRE40.2.2.2.mono (by decide) (by decide)⟩
    show Q0 Z p0 p1 p2 p3 p4 p5 cs w_NAME w_SYNTAX w_KEPT de kd el ea ke em mr h0 n0 _ T39.heap _
    rw [eh39]
    exact ⟨rfl, N39⟩
  show Good p e below _ (T25.setTop (mkF m 34 #[.val (.int p0), .val (.int p1), .val (.int p2), .val (.int p3), .val (.int p4), .val (.int p5), .val (.int (p0 &&& (3 : Int32))), .val (.ref tk_1), .val (.ref tk_4), .val (.ref tk_11), .val (.ref b18), .unset, .unset, .unset, .unset, .unset, .unset, .unset, .unset] []))
  obtain ⟨k41, hk41, he41⟩ := own_mask (x := p0) (m := 3) (n := 4) (by decide) (by decide)
  rcases (by omega : k41 = 0 ∨ k41 = 1 ∨ k41 = 2 ∨ k41 = 3) with rfl | rfl | rfl | rfl
  · have he41' : (p0 &&& (3 : Int32)) = (0 : Int32) := he41
    rw [he41']
    refine Good.back (fun _ k => XS.iload X25.here hx rfl (hb hby at_34) rfl k) ?_
    show Good p e below _ (T25.setTop (mkF m 36 #[.val (.int p0), .val (.int p1), .val (.int p2), .val (.int p3), .val (.int p4), .val (.int p5), .val (.int (0 : Int32)), .val (.ref tk_1), .val (.ref tk_4), .val (.ref tk_11), .val (.ref b18), .unset, .unset, .unset, .unset, .unset, .unset, .unset, .unset] [(.int (0 : Int32))]))
    refine Good.back (fun _ k => XS.ifYes X25.here hx rfl (pc0 := 36) (pc' := 47) rfl (hb hby at_36) rfl ((if0 _ _).trans (flt (by decide : ¬ ((0 : Int32) < (0 : Int32)))).2.2.2) (by decide) (by decide) k) ?_
    show Good p e below _ (T25.setTop (mkF m 47 #[.val (.int p0), .val (.int p1), .val (.int p2), .val (.int p3), .val (.int p4), .val (.int p5), .val (.int (0 : Int32)), .val (.ref tk_1), .val (.ref tk_4), .val (.ref tk_11), .val (.ref b18), .unset, .unset, .unset, .unset, .unset, .unset, .unset, .unset] []))
    refine Good.back (fun _ k => XS.iload X25.here hx rfl (hb hby at_47) rfl k) ?_
    refine Good.back (fun _ k => XS.iconst X25.here hx rfl (hb hby at_49) k) ?_
    show Good p e below _ (T25.setTop (mkF m 50 #[.val (.int p0), .val (.int p1), .val (.int p2), .val (.int p3), .val (.int p4), .val (.int p5), .val (.int (0 : Int32)), .val (.ref tk_1), .val (.ref tk_4), .val (.ref tk_11), .val (.ref b18), .unset, .unset, .unset, .unset, .unset, .unset, .unset, .unset] [(.int (1 : Int32)), (.int (0 : Int32))]))
    refine Good.back (fun _ k => XS.icmpYes X25.here hx rfl (pc0 := 50) (pc' := 61) rfl (hb hby at_50) rfl (flt (by decide : ¬ ((1 : Int32) < (0 : Int32)))).2.2.2 (by decide) (by decide) k) ?_
    show Good p e below _ (T25.setTop (mkF m 61 #[.val (.int p0), .val (.int p1), .val (.int p2), .val (.int p3), .val (.int p4), .val (.int p5), .val (.int (0 : Int32)), .val (.ref tk_1), .val (.ref tk_4), .val (.ref tk_11), .val (.ref b18), .unset, .unset, .unset, .unset, .unset, .unset, .unset, .unset] []))
    refine Good.back (fun _ k => XS.iload X25.here hx rfl (hb hby at_61) rfl k) ?_
    refine Good.back (fun _ k => XS.iconst X25.here hx rfl (hb hby at_63) k) ?_
    show Good p e below _ (T25.setTop (mkF m 64 #[.val (.int p0), .val (.int p1), .val (.int p2), .val (.int p3), .val (.int p4), .val (.int p5), .val (.int (0 : Int32)), .val (.ref tk_1), .val (.ref tk_4), .val (.ref tk_11), .val (.ref b18), .unset, .unset, .unset, .unset, .unset, .unset, .unset, .unset] [(.int (2 : Int32)), (.int (0 : Int32))]))
    refine Good.back (fun _ k => XS.icmpYes X25.here hx rfl (pc0 := 64) (pc' := 75) rfl (hb hby at_64) rfl (flt (by decide : ¬ ((2 : Int32) < (0 : Int32)))).2.2.2 (by decide) (by decide) k) ?_
    show Good p e below _ (T25.setTop (mkF m 75 #[.val (.int p0), .val (.int p1), .val (.int p2), .val (.int p3), .val (.int p4), .val (.int p5), .val (.int (0 : Int32)), .val (.ref tk_1), .val (.ref tk_4), .val (.ref tk_11), .val (.ref b18), .unset, .unset, .unset, .unset, .unset, .unset, .unset, .unset] []))
    refine Good.back (fun _ k => XS.aload X25.here hx rfl (hb hby at_75) rfl rfl k) ?_
    have f_43 : Exa Z T25.heap b18 "java/util/ArrayList" := Exa.keep f_21 Kq25
    obtain ⟨_, _, ⟨T42, L42, k42, n42⟩, -, X42, ⟨Lc42, hQ42, l42, y42, z42⟩, st42⟩ := Jvm.LawKit.callS X25 hx (y := (⟨"com/example/liken/liken/core/TokenSlice", "held", "(Ljava/util/List;)Ljava/util/List;"⟩ : MethodName)) hown11 (mvT hZ11 (hw _ (own_m 104 rfl))) (mvT hZ11 (hw _ (own_m 105 rfl))) (mvT hZ11 (hw _ (own_m 106 rfl))) (mvT hZ11 (hw _ (own_m 107 rfl))) (by decide) (backOf (W := 0) (rm18A l Z a0 hw [] b18  T25.heap n0 Z30 f_43) hZ11 (hw _ (own_m 107 rfl)) (hw _ (own_m 106 rfl)) (by decide) (by decide)) (g := (mkF m 77 #[.val (.int p0), .val (.int p1), .val (.int p2), .val (.int p3), .val (.int p4), .val (.int p5), .val (.int (0 : Int32)), .val (.ref tk_1), .val (.ref tk_4), .val (.ref tk_11), .val (.ref b18), .unset, .unset, .unset, .unset, .unset, .unset, .unset, .unset] [(.ref b18)])) rfl (by rw [hml]; rfl) (argsL := [(.ref b18)]) (rest := []) (lenOf own_pd567 rfl) rfl (by show 2 * 0 + _ ≤ _; exact Nat.le_of_eq rfl) (hb hby at_77) (fun _ _ => ⟨rfl, rfl, (by decide : 37 + 0 ≤ _), (by decide : 312 + 0 ≤ _)⟩)
    dsimp only [Pt.U, Pt.locs, Pt.cells, Pt.slots] at X42 l42 y42 z42 st42 hQ42
    subst l42 y42 z42
    obtain ⟨rfl, N42q, eh42⟩ := hQ42
    have N42 := Fr.app N25 N42q
    refine Good.back st42 ?_
    refine Good.back (fun _ k => XS.aload X42.here hx rfl (hb hby at_80) rfl rfl k) ?_
    show Good p e below _ (T42.setTop (mkF m 82 #[.val (.int p0), .val (.int p1), .val (.int p2), .val (.int p3), .val (.int p4), .val (.int p5), .val (.int (0 : Int32)), .val (.ref tk_1), .val (.ref tk_4), .val (.ref tk_11), .val (.ref b18), .unset, .unset, .unset, .unset, .unset, .unset, .unset, .unset] [(.ref b18), (.ref b18)]))
    refine Good.back (fun _ k => Jvm.RoadKit.acmp (g := (mkF m 82 #[.val (.int p0), .val (.int p1), .val (.int p2), .val (.int p3), .val (.int p4), .val (.int p5), .val (.int (0 : Int32)), .val (.ref tk_1), .val (.ref tk_4), .val (.ref tk_11), .val (.ref b18), .unset, .unset, .unset, .unset, .unset, .unset, .unset, .unset] [(.ref b18), (.ref b18)])) X42 hx rfl rfl rfl (pc0 := 82) (pc' := 87) (same := true) rfl (hb hby at_82) rfl (decide_eq_true rfl) (by decide) (by decide) k) ?_
    show Good p e below _ (T42.setTop (mkF m 87 #[.val (.int p0), .val (.int p1), .val (.int p2), .val (.int p3), .val (.int p4), .val (.int p5), .val (.int (0 : Int32)), .val (.ref tk_1), .val (.ref tk_4), .val (.ref tk_11), .val (.ref b18), .unset, .unset, .unset, .unset, .unset, .unset, .unset, .unset] []))
    refine Good.back (fun _ k => XS.aload X42.here hx rfl (hb hby at_87) rfl rfl k) ?_
    have f_45 : Sta Z T1.heap "java/util/ImmutableCollections" "EMPTY_LIST" "Ljava/util/ImmutableCollections$ListN;" (.ref el) := own_staKeep S_el Kq1 all0
    have f_46 : Sta Z T4.heap "java/util/ImmutableCollections" "EMPTY_LIST" "Ljava/util/ImmutableCollections$ListN;" (.ref el) := own_staKeep f_45 Kq4 all0
    have f_47 : Sta Z T11.heap "java/util/ImmutableCollections" "EMPTY_LIST" "Ljava/util/ImmutableCollections$ListN;" (.ref el) := own_staKeep f_46 Kq11 all0
    have f_48 : Sta Z h18 "java/util/ImmutableCollections" "EMPTY_LIST" "Ljava/util/ImmutableCollections$ListN;" (.ref el) := Sta.ext E18 f_47
    have f_49 : Sta Z T25.heap "java/util/ImmutableCollections" "EMPTY_LIST" "Ljava/util/ImmutableCollections$ListN;" (.ref el) := own_staKeep f_48 Kq25 (allS (own_plainE f_21) all0)
    have f_50 : Exa Z T1.heap el "java/util/ImmutableCollections$ListN" := Exa.keep E_el Kq1
    have f_51 : Exa Z T4.heap el "java/util/ImmutableCollections$ListN" := Exa.keep f_50 Kq4
    have f_52 : Exa Z T11.heap el "java/util/ImmutableCollections$ListN" := Exa.keep f_51 Kq11
    have f_53 : Exa Z h18 el "java/util/ImmutableCollections$ListN" := Exa.ext E18 f_52
    have f_54 : Exa Z T25.heap el "java/util/ImmutableCollections$ListN" := Exa.keep f_53 Kq25
    have f_55 : Fld Z T1.heap el "java/util/ImmutableCollections$ListN" "elements" "[Ljava/lang/Object;" (.ref ea) := Fld.keep F_el Kq1 nin0
    have f_56 : Fld Z T4.heap el "java/util/ImmutableCollections$ListN" "elements" "[Ljava/lang/Object;" (.ref ea) := Fld.keep f_55 Kq4 nin0
    have f_57 : Fld Z T11.heap el "java/util/ImmutableCollections$ListN" "elements" "[Ljava/lang/Object;" (.ref ea) := Fld.keep f_56 Kq11 nin0
    have f_58 : Fld Z h18 el "java/util/ImmutableCollections$ListN" "elements" "[Ljava/lang/Object;" (.ref ea) := Fld.ext E18 f_57
    have f_60 : Fld Z T1.heap el "java/util/ImmutableCollections$ListN" "elements" "[Ljava/lang/Object;" (.ref ea) := Fld.keep F_el Kq1 nin0
    have f_61 : Fld Z T4.heap el "java/util/ImmutableCollections$ListN" "elements" "[Ljava/lang/Object;" (.ref ea) := Fld.keep f_60 Kq4 nin0
    have f_62 : Fld Z T11.heap el "java/util/ImmutableCollections$ListN" "elements" "[Ljava/lang/Object;" (.ref ea) := Fld.keep f_61 Kq11 nin0
    have ne_el_b18_63 : el ≠ b18 := Nat.ne_of_lt (Nat.lt_of_lt_of_le f_62.lt (Nat.le_of_eq g18.symm))
    have f_59 : Fld Z T25.heap el "java/util/ImmutableCollections$ListN" "elements" "[Ljava/lang/Object;" (.ref ea) := Fld.keep f_58 Kq25 (ninS ne_el_b18_63 nin0)
    have f_64 : Arv Z T1.heap ea ke (.object "java/lang/Object") (0 : Int32) [] .null := Arv.keep V_ea Kq1 nin0
    have f_65 : Arv Z T4.heap ea ke (.object "java/lang/Object") (0 : Int32) [] .null := Arv.keep f_64 Kq4 nin0
    have f_66 : Arv Z T11.heap ea ke (.object "java/lang/Object") (0 : Int32) [] .null := Arv.keep f_65 Kq11 nin0
    have f_67 : Arv Z h18 ea ke (.object "java/lang/Object") (0 : Int32) [] .null := Arv.ext f_66 E18
    have f_69 : Arv Z T1.heap ea ke (.object "java/lang/Object") (0 : Int32) [] .null := Arv.keep V_ea Kq1 nin0
    have f_70 : Arv Z T4.heap ea ke (.object "java/lang/Object") (0 : Int32) [] .null := Arv.keep f_69 Kq4 nin0
    have f_71 : Arv Z T11.heap ea ke (.object "java/lang/Object") (0 : Int32) [] .null := Arv.keep f_70 Kq11 nin0
    have ne_ea_b18_72 : ea ≠ b18 := Nat.ne_of_lt (Nat.lt_of_lt_of_le f_71.lt (Nat.le_of_eq g18.symm))
    have f_68 : Arv Z T25.heap ea ke (.object "java/lang/Object") (0 : Int32) [] .null := Arv.keep f_67 Kq25 (ninS ne_ea_b18_72 nin0)
    obtain ⟨_, _, ⟨T44, L44, k44, n44⟩, -, X44, ⟨Lc44, hQ44, l44, y44, z44⟩, st44⟩ := Jvm.LawKit.callS X42 hx (y := (⟨"com/example/liken/liken/core/TokenSlice", "of", "(Ljava/util/List;)Lcom/example/liken/liken/core/TokenSlice;"⟩ : MethodName)) hown11 (mvT hZ11 (hw _ (own_m 113 rfl))) (mvT hZ11 (hw _ (own_m 114 rfl))) (mvT hZ11 (hw _ (own_m 106 rfl))) (mvT hZ11 (hw _ (own_m 115 rfl))) (by decide) (backOf (W := 0) (rm19_0 l Z a0 hw [] b18 el ea ke T25.heap n0 Z30 f_43 o25_1 f_49 f_54 f_59 f_68) hZ11 (hw _ (own_m 115 rfl)) (hw _ (own_m 106 rfl)) (by decide) (by decide)) (g := (mkF m 89 #[.val (.int p0), .val (.int p1), .val (.int p2), .val (.int p3), .val (.int p4), .val (.int p5), .val (.int (0 : Int32)), .val (.ref tk_1), .val (.ref tk_4), .val (.ref tk_11), .val (.ref b18), .unset, .unset, .unset, .unset, .unset, .unset, .unset, .unset] [(.ref b18)])) rfl (by rw [hml]; rfl) (argsL := [(.ref b18)]) (rest := []) (lenOf own_pd568 rfl) rfl (by show 2 * 0 + _ ≤ _; exact Nat.le_of_eq rfl) (hb hby at_89) (fun _ _ => ⟨rfl, eh42, (by decide : 37 + 1 ≤ _), (by decide : 312 + 4 ≤ _)⟩)
    dsimp only [Pt.U, Pt.locs, Pt.cells, Pt.slots] at X44 l44 y44 z44 st44 hQ44
    subst l44 y44 z44
    obtain ⟨ts_44, rfl, N44q, Kq44, o44_0, o44_1, o44_2, o44_3, o44_4⟩ := hQ44
    have N44 := Fr.app N42 N44q
    have Z73 : n0 ≤ T44.heap.size := Nat.le_trans Z30 Kq44.1
    have hk74 := Nat.le_trans hk31 Kq44.1
    have g_ts_44 : n0 ≤ ts_44 := Nat.le_trans Z30 o44_0
    refine Good.back st44 ?_
    show Good p e below _ (T44.setTop (mkF m 92 #[.val (.int p0), .val (.int p1), .val (.int p2), .val (.int p3), .val (.int p4), .val (.int p5), .val (.int (0 : Int32)), .val (.ref tk_1), .val (.ref tk_4), .val (.ref tk_11), .val (.ref b18), .unset, .unset, .unset, .unset, .unset, .unset, .unset, .unset] [(.ref ts_44)]))
    refine Good.back (fun _ k => XS.astore X44.here hx rfl (hb hby at_92) rfl rfl (l' := #[.val (.int p0), .val (.int p1), .val (.int p2), .val (.int p3), .val (.int p4), .val (.int p5), .val (.int (0 : Int32)), .val (.ref tk_1), .val (.ref tk_4), .val (.ref tk_11), .val (.ref b18), .val (.ref ts_44), .unset, .unset, .unset, .unset, .unset, .unset, .unset]) rfl k) ?_
    refine Good.back (fun _ k => XS.aload X44.here hx rfl (hb hby at_94) rfl rfl k) ?_
    obtain ⟨_, _, ⟨T75, L75, k75, n75⟩, -, X75, ⟨Lc75, hQ75, l75, y75, z75⟩, st75⟩ := Jvm.LawKit.callS X44 hx (y := (⟨"com/example/liken/liken/core/TokenSlice", "held", "(Ljava/util/List;)Ljava/util/List;"⟩ : MethodName)) hown11 (mvT hZ11 (hw _ (own_m 104 rfl))) (mvT hZ11 (hw _ (own_m 105 rfl))) (mvT hZ11 (hw _ (own_m 106 rfl))) (mvT hZ11 (hw _ (own_m 107 rfl))) (by decide) (backOf (W := 0) (rm18T l Z a0 hw [] ts_44 el T44.heap n0 Z73 o44_1 o44_2) hZ11 (hw _ (own_m 107 rfl)) (hw _ (own_m 106 rfl)) (by decide) (by decide)) (g := (mkF m 96 #[.val (.int p0), .val (.int p1), .val (.int p2), .val (.int p3), .val (.int p4), .val (.int p5), .val (.int (0 : Int32)), .val (.ref tk_1), .val (.ref tk_4), .val (.ref tk_11), .val (.ref b18), .val (.ref ts_44), .unset, .unset, .unset, .unset, .unset, .unset, .unset] [(.ref ts_44)])) rfl (by rw [hml]; rfl) (argsL := [(.ref ts_44)]) (rest := []) (lenOf own_pd567 rfl) rfl (by show 2 * 0 + _ ≤ _; exact Nat.le_of_eq rfl) (hb hby at_96) (fun _ _ => ⟨rfl, rfl, (by decide : 38 + 0 ≤ _), (by decide : 316 + 0 ≤ _)⟩)
    dsimp only [Pt.U, Pt.locs, Pt.cells, Pt.slots] at X75 l75 y75 z75 st75 hQ75
    subst l75 y75 z75
    obtain ⟨rfl, N75q, eh75⟩ := hQ75
    have N75 := Fr.app N44 N75q
    refine Good.back st75 ?_
    show Good p e below _ (T75.setTop (mkF m 99 #[.val (.int p0), .val (.int p1), .val (.int p2), .val (.int p3), .val (.int p4), .val (.int p5), .val (.int (0 : Int32)), .val (.ref tk_1), .val (.ref tk_4), .val (.ref tk_11), .val (.ref b18), .val (.ref ts_44), .unset, .unset, .unset, .unset, .unset, .unset, .unset] [(.ref el)]))
    refine Good.back (fun _ k => XS.astore X75.here hx rfl (hb hby at_99) rfl rfl (l' := #[.val (.int p0), .val (.int p1), .val (.int p2), .val (.int p3), .val (.int p4), .val (.int p5), .val (.int (0 : Int32)), .val (.ref tk_1), .val (.ref tk_4), .val (.ref tk_11), .val (.ref b18), .val (.ref ts_44), .val (.ref el), .unset, .unset, .unset, .unset, .unset, .unset]) rfl k) ?_
    refine Good.back (fun _ k => XS.aload X75.here hx rfl (hb hby at_101) rfl rfl k) ?_
    refine Good.back (fun _ k => XS.aload X75.here hx rfl (hb hby at_103) rfl rfl k) ?_
    show Good p e below _ (T75.setTop (mkF m 105 #[.val (.int p0), .val (.int p1), .val (.int p2), .val (.int p3), .val (.int p4), .val (.int p5), .val (.int (0 : Int32)), .val (.ref tk_1), .val (.ref tk_4), .val (.ref tk_11), .val (.ref b18), .val (.ref ts_44), .val (.ref el), .unset, .unset, .unset, .unset, .unset, .unset] [(.ref ts_44), (.ref el)]))
    have ne_el_ts_44_76 : el ≠ ts_44 := Nat.ne_of_lt (Nat.lt_of_lt_of_le f_59.lt o44_0)
    refine Good.back (fun _ k => Jvm.RoadKit.acmp (g := (mkF m 105 #[.val (.int p0), .val (.int p1), .val (.int p2), .val (.int p3), .val (.int p4), .val (.int p5), .val (.int (0 : Int32)), .val (.ref tk_1), .val (.ref tk_4), .val (.ref tk_11), .val (.ref b18), .val (.ref ts_44), .val (.ref el), .unset, .unset, .unset, .unset, .unset, .unset] [(.ref ts_44), (.ref el)])) X75 hx rfl rfl rfl (pc0 := 105) (pc' := 110) (same := false) rfl (hb hby at_105) rfl (decide_eq_false fun q => ne_el_ts_44_76 (Value.ref.inj q)) (by decide) (by decide) k) ?_
    show Good p e below _ (T75.setTop (mkF m 110 #[.val (.int p0), .val (.int p1), .val (.int p2), .val (.int p3), .val (.int p4), .val (.int p5), .val (.int (0 : Int32)), .val (.ref tk_1), .val (.ref tk_4), .val (.ref tk_11), .val (.ref b18), .val (.ref ts_44), .val (.ref el), .unset, .unset, .unset, .unset, .unset, .unset] []))
    refine Good.back (fun _ k => XS.aload X75.here hx rfl (hb hby at_110) rfl rfl k) ?_
    have f_78 : Fld Z T44.heap el "java/util/ImmutableCollections$ListN" "elements" "[Ljava/lang/Object;" (.ref ea) := Fld.keep f_59 Kq44 nin0
    have f_79 : Arv Z T44.heap ea ke (.object "java/lang/Object") (0 : Int32) [] .null := Arv.keep f_68 Kq44 nin0
    have f_80 : Exa Z T44.heap el "java/util/ImmutableCollections$ListN" := Exa.keep f_54 Kq44
    obtain ⟨cq77, kq77, q77a, q77b, q77c⟩ := isOf hZ11 eh75 f_80
    obtain ⟨_, _, ⟨T77, L77, k77, n77⟩, -, X77, ⟨Lc77, hQ77, l77, y77, z77⟩, st77⟩ := X75.interfaceBack hx (xi := (⟨"java/util/List", "size", "()I"⟩ : MethodName)) (y := (⟨"java/util/ImmutableCollections$ListN", "size", "()I"⟩ : MethodName)) hown11 (mvT hZ11 (hw _ (own_m 167 rfl))) (mvT hZ11 (hw _ (own_m 143 rfl))) (mvT hZ11 (hw _ (own_m 144 rfl))) (mvT hZ11 (hw _ (own_m 145 rfl))) (mvT hZ11 (hw _ (own_m 146 rfl))) (mvT hZ11 (hw _ (own_m 147 rfl))) (mvT hZ11 (hw _ (own_m 148 rfl))) (mvT hZ11 (hw _ (own_m 149 rfl))) (by decide) (backOf (W := 0) (rm24_0 l Z a0 hw [] el ea ke T44.heap n0 Z73 f_78 f_79) hZ11 (hw _ (own_m 151 rfl)) (hw _ (own_m 150 rfl)) (by decide) (by decide)) q77a q77b q77c (g := (mkF m 112 #[.val (.int p0), .val (.int p1), .val (.int p2), .val (.int p3), .val (.int p4), .val (.int p5), .val (.int (0 : Int32)), .val (.ref tk_1), .val (.ref tk_4), .val (.ref tk_11), .val (.ref b18), .val (.ref ts_44), .val (.ref el), .unset, .unset, .unset, .unset, .unset, .unset] [(.ref el)])) rfl (by rw [hml]; rfl) (Steps.refl _) (argsL := []) (rest := []) (lenOf own_pd510 rfl) rfl (by show 2 * 0 + _ ≤ _; exact Nat.le_of_eq rfl) (hb hby at_112) (fun _ _ => ⟨rfl, eh75, (by decide : 38 + 0 ≤ _), (by decide : 316 + 0 ≤ _)⟩)
    dsimp only [Pt.U, Pt.locs, Pt.cells, Pt.slots] at X77 l77 y77 z77 st77 hQ77
    subst l77 y77 z77
    obtain ⟨rfl, N77q, eh77⟩ := hQ77
    have N77 := Fr.app N75 N77q
    refine Good.back (fun _ k => st77.trans k) ?_
    refine Good.back (fun _ k => XS.iload X77.here hx rfl (hb hby at_117) rfl k) ?_
    show Good p e below _ (T77.setTop (mkF m 119 #[.val (.int p0), .val (.int p1), .val (.int p2), .val (.int p3), .val (.int p4), .val (.int p5), .val (.int (0 : Int32)), .val (.ref tk_1), .val (.ref tk_4), .val (.ref tk_11), .val (.ref b18), .val (.ref ts_44), .val (.ref el), .unset, .unset, .unset, .unset, .unset, .unset] [(.int (0 : Int32)), (.int (0 : Int32))]))
    refine Good.back (fun _ k => XS.icmpYes X77.here hx rfl (pc0 := 119) (pc' := 124) rfl (hb hby at_119) rfl (teq (by decide : ((0 : Int32) = (0 : Int32)))).1 (by decide) (by decide) k) ?_
    show Good p e below _ (T77.setTop (mkF m 124 #[.val (.int p0), .val (.int p1), .val (.int p2), .val (.int p3), .val (.int p4), .val (.int p5), .val (.int (0 : Int32)), .val (.ref tk_1), .val (.ref tk_4), .val (.ref tk_11), .val (.ref b18), .val (.ref ts_44), .val (.ref el), .unset, .unset, .unset, .unset, .unset, .unset] []))
    refine Good.back (fun _ k => XS.iload X77.here hx rfl (hb hby at_124) rfl k) ?_
    show Good p e below _ (T77.setTop (mkF m 126 #[.val (.int p0), .val (.int p1), .val (.int p2), .val (.int p3), .val (.int p4), .val (.int p5), .val (.int (0 : Int32)), .val (.ref tk_1), .val (.ref tk_4), .val (.ref tk_11), .val (.ref b18), .val (.ref ts_44), .val (.ref el), .unset, .unset, .unset, .unset, .unset, .unset] [(.int (0 : Int32))]))
    refine Good.back (fun _ k => XS.ifYes X77.here hx rfl (pc0 := 126) (pc' := 144) rfl (hb hby at_126) rfl ((if0 _ _).trans (flt (by decide : ¬ ((0 : Int32) < (0 : Int32)))).2.2.2) (by decide) (by decide) k) ?_
    show Good p e below _ (T77.setTop (mkF m 144 #[.val (.int p0), .val (.int p1), .val (.int p2), .val (.int p3), .val (.int p4), .val (.int p5), .val (.int (0 : Int32)), .val (.ref tk_1), .val (.ref tk_4), .val (.ref tk_11), .val (.ref b18), .val (.ref ts_44), .val (.ref el), .unset, .unset, .unset, .unset, .unset, .unset] []))
    refine Good.back (fun _ k => XS.iload X77.here hx rfl (hb hby at_144) rfl k) ?_
    refine Good.back (fun _ k => XS.iconst X77.here hx rfl (hb hby at_146) k) ?_
    show Good p e below _ (T77.setTop (mkF m 147 #[.val (.int p0), .val (.int p1), .val (.int p2), .val (.int p3), .val (.int p4), .val (.int p5), .val (.int (0 : Int32)), .val (.ref tk_1), .val (.ref tk_4), .val (.ref tk_11), .val (.ref b18), .val (.ref ts_44), .val (.ref el), .unset, .unset, .unset, .unset, .unset, .unset] [(.int (1 : Int32)), (.int (0 : Int32))]))
    refine Good.back (fun _ k => XS.icmpYes X77.here hx rfl (pc0 := 147) (pc' := 165) rfl (hb hby at_147) rfl (flt (by decide : ¬ ((1 : Int32) < (0 : Int32)))).2.2.2 (by decide) (by decide) k) ?_
    show Good p e below _ (T77.setTop (mkF m 165 #[.val (.int p0), .val (.int p1), .val (.int p2), .val (.int p3), .val (.int p4), .val (.int p5), .val (.int (0 : Int32)), .val (.ref tk_1), .val (.ref tk_4), .val (.ref tk_11), .val (.ref b18), .val (.ref ts_44), .val (.ref el), .unset, .unset, .unset, .unset, .unset, .unset] []))
    refine Good.back (fun _ k => XS.iload X77.here hx rfl (hb hby at_165) rfl k) ?_
    refine Good.back (fun _ k => XS.iconst X77.here hx rfl (hb hby at_167) k) ?_
    show Good p e below _ (T77.setTop (mkF m 168 #[.val (.int p0), .val (.int p1), .val (.int p2), .val (.int p3), .val (.int p4), .val (.int p5), .val (.int (0 : Int32)), .val (.ref tk_1), .val (.ref tk_4), .val (.ref tk_11), .val (.ref b18), .val (.ref ts_44), .val (.ref el), .unset, .unset, .unset, .unset, .unset, .unset] [(.int (2 : Int32)), (.int (0 : Int32))]))
    refine Good.back (fun _ k => XS.icmpYes X77.here hx rfl (pc0 := 168) (pc' := 186) rfl (hb hby at_168) rfl (flt (by decide : ¬ ((2 : Int32) < (0 : Int32)))).2.2.2 (by decide) (by decide) k) ?_
    show Good p e below _ (T77.setTop (mkF m 186 #[.val (.int p0), .val (.int p1), .val (.int p2), .val (.int p3), .val (.int p4), .val (.int p5), .val (.int (0 : Int32)), .val (.ref tk_1), .val (.ref tk_4), .val (.ref tk_11), .val (.ref b18), .val (.ref ts_44), .val (.ref el), .unset, .unset, .unset, .unset, .unset, .unset] []))
    exact key186 (0 : Int32) ts_44 el T44.heap _ _ (X77.mono (by decide) (by decide)) N77 eh77 (Z73) (hk74) (o44_1) (o44_2) (o44_3) (o44_4) (by decide)
  · have he41' : (p0 &&& (3 : Int32)) = (1 : Int32) := he41
    rw [he41']
    refine Good.back (fun _ k => XS.iload X25.here hx rfl (hb hby at_34) rfl k) ?_
    show Good p e below _ (T25.setTop (mkF m 36 #[.val (.int p0), .val (.int p1), .val (.int p2), .val (.int p3), .val (.int p4), .val (.int p5), .val (.int (1 : Int32)), .val (.ref tk_1), .val (.ref tk_4), .val (.ref tk_11), .val (.ref b18), .unset, .unset, .unset, .unset, .unset, .unset, .unset, .unset] [(.int (1 : Int32))]))
    refine Good.back (fun _ k => XS.ifNo X25.here hx rfl (hb hby at_36) rfl ((if0 _ _).trans (tlt (by decide : ((0 : Int32) < (1 : Int32)))).2.2.2) k) ?_
    show Good p e below _ (T25.setTop (mkF m 39 #[.val (.int p0), .val (.int p1), .val (.int p2), .val (.int p3), .val (.int p4), .val (.int p5), .val (.int (1 : Int32)), .val (.ref tk_1), .val (.ref tk_4), .val (.ref tk_11), .val (.ref b18), .unset, .unset, .unset, .unset, .unset, .unset, .unset, .unset] []))
    refine Good.back (fun _ k => XS.aload X25.here hx rfl (hb hby at_39) rfl rfl k) ?_
    refine Good.back (fun _ k => XS.aload X25.here hx rfl (hb hby at_41) rfl rfl k) ?_
    have f_82 : Exa Z T25.heap b18 "java/util/ArrayList" := Exa.keep f_21 Kq25
    have f_83 : Exa Z T4.heap tk_1 "com/example/liken/liken/core/Token" := Exa.keep o1_1 Kq4
    have f_84 : Exa Z T11.heap tk_1 "com/example/liken/liken/core/Token" := Exa.keep f_83 Kq11
    have f_85 : Exa Z h18 tk_1 "com/example/liken/liken/core/Token" := Exa.ext E18 f_84
    have f_86 : Exa Z T25.heap tk_1 "com/example/liken/liken/core/Token" := Exa.keep f_85 Kq25
    have f_87 : Sta Z T25.heap "java/util/ArrayList" "DEFAULTCAPACITY_EMPTY_ELEMENTDATA" "[Ljava/lang/Object;" (.ref de) := own_staKeep f_29 Kq25 (allS (own_plainE f_21) all0)
    have f_88 : Arv Z T1.heap de kd (.object "java/lang/Object") (0 : Int32) [] .null := Arv.keep Vd Kq1 nin0
    have f_89 : Arv Z T4.heap de kd (.object "java/lang/Object") (0 : Int32) [] .null := Arv.keep f_88 Kq4 nin0
    have f_90 : Arv Z T11.heap de kd (.object "java/lang/Object") (0 : Int32) [] .null := Arv.keep f_89 Kq11 nin0
    have f_91 : Arv Z h18 de kd (.object "java/lang/Object") (0 : Int32) [] .null := Arv.ext f_90 E18
    have f_93 : Arv Z T1.heap de kd (.object "java/lang/Object") (0 : Int32) [] .null := Arv.keep Vd Kq1 nin0
    have f_94 : Arv Z T4.heap de kd (.object "java/lang/Object") (0 : Int32) [] .null := Arv.keep f_93 Kq4 nin0
    have f_95 : Arv Z T11.heap de kd (.object "java/lang/Object") (0 : Int32) [] .null := Arv.keep f_94 Kq11 nin0
    have ne_de_b18_96 : de ≠ b18 := Nat.ne_of_lt (Nat.lt_of_lt_of_le f_95.lt (Nat.le_of_eq g18.symm))
    have f_92 : Arv Z T25.heap de kd (.object "java/lang/Object") (0 : Int32) [] .null := Arv.keep f_91 Kq25 (ninS ne_de_b18_96 nin0)
    obtain ⟨cq81, kq81, q81a, q81b, q81c⟩ := isOf hZ11 rfl f_82
    obtain ⟨_, _, ⟨T81, L81, k81, n81⟩, -, X81, ⟨Lc81, hQ81, l81, y81, z81⟩, st81⟩ := X25.virtualBack hx (y := (⟨"java/util/ArrayList", "add", "(Ljava/lang/Object;)Z"⟩ : MethodName)) (z := (⟨"java/util/ArrayList", "add", "(Ljava/lang/Object;)Z"⟩ : MethodName)) hown11 (mvT hZ11 (hw _ (own_m 180 rfl))) (mvT hZ11 (hw _ (own_m 181 rfl))) (notFace_of_selects (args := #[]) (mvT hZ11 (hw _ (own_m 183 rfl)))) (mvT hZ11 (hw _ (own_m 183 rfl))) (mvT hZ11 (hw _ (own_m 182 rfl))) (by decide) (backOf (W := 0) (rm29_0 l Z a0 hw [] b18 tk_1 de kd (0 : Int32) T25.heap n0 Z30 f_82 g_b18 f_86 o25_0 o25_1 o25_2 f_87 f_92) hZ11 (hw _ (own_m 184 rfl)) (hw _ (own_m 82 rfl)) (by decide) (by decide)) q81a q81c (g := (mkF m 43 #[.val (.int p0), .val (.int p1), .val (.int p2), .val (.int p3), .val (.int p4), .val (.int p5), .val (.int (1 : Int32)), .val (.ref tk_1), .val (.ref tk_4), .val (.ref tk_11), .val (.ref b18), .unset, .unset, .unset, .unset, .unset, .unset, .unset, .unset] [(.ref tk_1), (.ref b18)])) rfl (by rw [hml]; rfl) (Steps.refl _) (argsL := [(.ref tk_1)]) (rest := []) (lenOf own_pd569 rfl) rfl (by show 2 * 0 + _ ≤ _; exact Nat.le_of_eq rfl) (hb hby at_43) (fun _ _ => ⟨rfl, rfl, (by decide : 37 + 1 ≤ _), (by decide : 312 + 10 ≤ _)⟩)
    dsimp only [Pt.U, Pt.locs, Pt.cells, Pt.slots] at X81 l81 y81 z81 st81 hQ81
    subst l81 y81 z81
    obtain ⟨ar_81, kk_81, rfl, N81q, Kq81, o81_0, o81_1, o81_2, o81_3, o81_4, o81_5, o81_6⟩ := hQ81
    have N81 := Fr.app N25 N81q
    have Z97 : n0 ≤ T81.heap.size := Nat.le_trans Z30 Kq81.1
    have hk98 := Nat.le_trans hk31 Kq81.1
    have g_ar_81 : n0 ≤ ar_81 := Nat.le_trans Z30 o81_0
    refine Good.back (fun _ k => st81.trans k) ?_
    show Good p e below _ (T81.setTop (mkF m 46 #[.val (.int p0), .val (.int p1), .val (.int p2), .val (.int p3), .val (.int p4), .val (.int p5), .val (.int (1 : Int32)), .val (.ref tk_1), .val (.ref tk_4), .val (.ref tk_11), .val (.ref b18), .unset, .unset, .unset, .unset, .unset, .unset, .unset, .unset] [(.int (1 : Int32))]))
    refine Good.back (fun _ k => XS.pop X81.here hx rfl (hb hby at_46) rfl rfl k) ?_
    refine Good.back (fun _ k => XS.iload X81.here hx rfl (hb hby at_47) rfl k) ?_
    refine Good.back (fun _ k => XS.iconst X81.here hx rfl (hb hby at_49) k) ?_
    show Good p e below _ (T81.setTop (mkF m 50 #[.val (.int p0), .val (.int p1), .val (.int p2), .val (.int p3), .val (.int p4), .val (.int p5), .val (.int (1 : Int32)), .val (.ref tk_1), .val (.ref tk_4), .val (.ref tk_11), .val (.ref b18), .unset, .unset, .unset, .unset, .unset, .unset, .unset, .unset] [(.int (1 : Int32)), (.int (1 : Int32))]))
    refine Good.back (fun _ k => XS.icmpYes X81.here hx rfl (pc0 := 50) (pc' := 61) rfl (hb hby at_50) rfl (flt (by decide : ¬ ((1 : Int32) < (1 : Int32)))).2.2.2 (by decide) (by decide) k) ?_
    show Good p e below _ (T81.setTop (mkF m 61 #[.val (.int p0), .val (.int p1), .val (.int p2), .val (.int p3), .val (.int p4), .val (.int p5), .val (.int (1 : Int32)), .val (.ref tk_1), .val (.ref tk_4), .val (.ref tk_11), .val (.ref b18), .unset, .unset, .unset, .unset, .unset, .unset, .unset, .unset] []))
    refine Good.back (fun _ k => XS.iload X81.here hx rfl (hb hby at_61) rfl k) ?_
    refine Good.back (fun _ k => XS.iconst X81.here hx rfl (hb hby at_63) k) ?_
    show Good p e below _ (T81.setTop (mkF m 64 #[.val (.int p0), .val (.int p1), .val (.int p2), .val (.int p3), .val (.int p4), .val (.int p5), .val (.int (1 : Int32)), .val (.ref tk_1), .val (.ref tk_4), .val (.ref tk_11), .val (.ref b18), .unset, .unset, .unset, .unset, .unset, .unset, .unset, .unset] [(.int (2 : Int32)), (.int (1 : Int32))]))
    refine Good.back (fun _ k => XS.icmpYes X81.here hx rfl (pc0 := 64) (pc' := 75) rfl (hb hby at_64) rfl (flt (by decide : ¬ ((2 : Int32) < (1 : Int32)))).2.2.2 (by decide) (by decide) k) ?_
    show Good p e below _ (T81.setTop (mkF m 75 #[.val (.int p0), .val (.int p1), .val (.int p2), .val (.int p3), .val (.int p4), .val (.int p5), .val (.int (1 : Int32)), .val (.ref tk_1), .val (.ref tk_4), .val (.ref tk_11), .val (.ref b18), .unset, .unset, .unset, .unset, .unset, .unset, .unset, .unset] []))
    refine Good.back (fun _ k => XS.aload X81.here hx rfl (hb hby at_75) rfl rfl k) ?_
    have f_100 : Exa Z T81.heap b18 "java/util/ArrayList" := Exa.keep f_82 Kq81
    obtain ⟨_, _, ⟨T99, L99, k99, n99⟩, -, X99, ⟨Lc99, hQ99, l99, y99, z99⟩, st99⟩ := Jvm.LawKit.callS X81 hx (y := (⟨"com/example/liken/liken/core/TokenSlice", "held", "(Ljava/util/List;)Ljava/util/List;"⟩ : MethodName)) hown11 (mvT hZ11 (hw _ (own_m 104 rfl))) (mvT hZ11 (hw _ (own_m 105 rfl))) (mvT hZ11 (hw _ (own_m 106 rfl))) (mvT hZ11 (hw _ (own_m 107 rfl))) (by decide) (backOf (W := 0) (rm18A l Z a0 hw [] b18  T81.heap n0 Z97 f_100) hZ11 (hw _ (own_m 107 rfl)) (hw _ (own_m 106 rfl)) (by decide) (by decide)) (g := (mkF m 77 #[.val (.int p0), .val (.int p1), .val (.int p2), .val (.int p3), .val (.int p4), .val (.int p5), .val (.int (1 : Int32)), .val (.ref tk_1), .val (.ref tk_4), .val (.ref tk_11), .val (.ref b18), .unset, .unset, .unset, .unset, .unset, .unset, .unset, .unset] [(.ref b18)])) rfl (by rw [hml]; rfl) (argsL := [(.ref b18)]) (rest := []) (lenOf own_pd567 rfl) rfl (by show 2 * 0 + _ ≤ _; exact Nat.le_of_eq rfl) (hb hby at_77) (fun _ _ => ⟨rfl, rfl, (by decide : 38 + 0 ≤ _), (by decide : 322 + 0 ≤ _)⟩)
    dsimp only [Pt.U, Pt.locs, Pt.cells, Pt.slots] at X99 l99 y99 z99 st99 hQ99
    subst l99 y99 z99
    obtain ⟨rfl, N99q, eh99⟩ := hQ99
    have N99 := Fr.app N81 N99q
    refine Good.back st99 ?_
    refine Good.back (fun _ k => XS.aload X99.here hx rfl (hb hby at_80) rfl rfl k) ?_
    show Good p e below _ (T99.setTop (mkF m 82 #[.val (.int p0), .val (.int p1), .val (.int p2), .val (.int p3), .val (.int p4), .val (.int p5), .val (.int (1 : Int32)), .val (.ref tk_1), .val (.ref tk_4), .val (.ref tk_11), .val (.ref b18), .unset, .unset, .unset, .unset, .unset, .unset, .unset, .unset] [(.ref b18), (.ref b18)]))
    refine Good.back (fun _ k => Jvm.RoadKit.acmp (g := (mkF m 82 #[.val (.int p0), .val (.int p1), .val (.int p2), .val (.int p3), .val (.int p4), .val (.int p5), .val (.int (1 : Int32)), .val (.ref tk_1), .val (.ref tk_4), .val (.ref tk_11), .val (.ref b18), .unset, .unset, .unset, .unset, .unset, .unset, .unset, .unset] [(.ref b18), (.ref b18)])) X99 hx rfl rfl rfl (pc0 := 82) (pc' := 87) (same := true) rfl (hb hby at_82) rfl (decide_eq_true rfl) (by decide) (by decide) k) ?_
    show Good p e below _ (T99.setTop (mkF m 87 #[.val (.int p0), .val (.int p1), .val (.int p2), .val (.int p3), .val (.int p4), .val (.int p5), .val (.int (1 : Int32)), .val (.ref tk_1), .val (.ref tk_4), .val (.ref tk_11), .val (.ref b18), .unset, .unset, .unset, .unset, .unset, .unset, .unset, .unset] []))
    refine Good.back (fun _ k => XS.aload X99.here hx rfl (hb hby at_87) rfl rfl k) ?_
    have f_102 : Exa Z T81.heap tk_1 "com/example/liken/liken/core/Token" := Exa.keep f_86 Kq81
    have f_103 : Sta Z T1.heap "java/util/ImmutableCollections" "EMPTY" "Ljava/lang/Object;" (.ref em) := own_staKeep S_em Kq1 all0
    have f_104 : Sta Z T4.heap "java/util/ImmutableCollections" "EMPTY" "Ljava/lang/Object;" (.ref em) := own_staKeep f_103 Kq4 all0
    have f_105 : Sta Z T11.heap "java/util/ImmutableCollections" "EMPTY" "Ljava/lang/Object;" (.ref em) := own_staKeep f_104 Kq11 all0
    have f_106 : Sta Z h18 "java/util/ImmutableCollections" "EMPTY" "Ljava/lang/Object;" (.ref em) := Sta.ext E18 f_105
    have f_107 : Sta Z T25.heap "java/util/ImmutableCollections" "EMPTY" "Ljava/lang/Object;" (.ref em) := own_staKeep f_106 Kq25 (allS (own_plainE f_21) all0)
    have f_108 : Sta Z T81.heap "java/util/ImmutableCollections" "EMPTY" "Ljava/lang/Object;" (.ref em) := own_staKeep f_107 Kq81 (allS (own_plainE f_82) all0)
    have f_109 : Exa Z T1.heap em "java/lang/Object" := Exa.keep E_em Kq1
    have f_110 : Exa Z T4.heap em "java/lang/Object" := Exa.keep f_109 Kq4
    have f_111 : Exa Z T11.heap em "java/lang/Object" := Exa.keep f_110 Kq11
    have f_112 : Exa Z h18 em "java/lang/Object" := Exa.ext E18 f_111
    have f_113 : Exa Z T25.heap em "java/lang/Object" := Exa.keep f_112 Kq25
    have f_114 : Exa Z T81.heap em "java/lang/Object" := Exa.keep f_113 Kq81
    obtain ⟨_, _, ⟨T101, L101, k101, n101⟩, -, X101, ⟨Lc101, hQ101, l101, y101, z101⟩, st101⟩ := Jvm.LawKit.callS X99 hx (y := (⟨"com/example/liken/liken/core/TokenSlice", "of", "(Ljava/util/List;)Lcom/example/liken/liken/core/TokenSlice;"⟩ : MethodName)) hown11 (mvT hZ11 (hw _ (own_m 113 rfl))) (mvT hZ11 (hw _ (own_m 114 rfl))) (mvT hZ11 (hw _ (own_m 106 rfl))) (mvT hZ11 (hw _ (own_m 115 rfl))) (by decide) (backOf (W := 0) (rm19_1 l Z a0 hw [] b18 ar_81 kk_81 mr tk_1 em T81.heap n0 Z97 f_100 o81_4 o81_5 o81_1 o81_2 (by first | assumption | decide) f_102 f_108 f_114) hZ11 (hw _ (own_m 115 rfl)) (hw _ (own_m 106 rfl)) (by decide) (by decide)) (g := (mkF m 89 #[.val (.int p0), .val (.int p1), .val (.int p2), .val (.int p3), .val (.int p4), .val (.int p5), .val (.int (1 : Int32)), .val (.ref tk_1), .val (.ref tk_4), .val (.ref tk_11), .val (.ref b18), .unset, .unset, .unset, .unset, .unset, .unset, .unset, .unset] [(.ref b18)])) rfl (by rw [hml]; rfl) (argsL := [(.ref b18)]) (rest := []) (lenOf own_pd568 rfl) rfl (by show 2 * 0 + _ ≤ _; exact Nat.le_of_eq rfl) (hb hby at_89) (fun _ _ => ⟨rfl, eh99, (by decide : 38 + 3 ≤ _), (by decide : 322 + 7 ≤ _)⟩)
    dsimp only [Pt.U, Pt.locs, Pt.cells, Pt.slots] at X101 l101 y101 z101 st101 hQ101
    subst l101 y101 z101
    obtain ⟨ts_101, li_101, rfl, N101q, Kq101, o101_0, o101_1, o101_2, o101_3, o101_4, o101_5, o101_6, o101_7, o101_8⟩ := hQ101
    have N101 := Fr.app N99 N101q
    have Z115 : n0 ≤ T101.heap.size := Nat.le_trans Z97 Kq101.1
    have hk116 := Nat.le_trans hk98 Kq101.1
    have g_ts_101 : n0 ≤ ts_101 := Nat.le_trans Z97 o101_0
    have g_li_101 : n0 ≤ li_101 := Nat.le_trans Z97 o101_5
    refine Good.back st101 ?_
    show Good p e below _ (T101.setTop (mkF m 92 #[.val (.int p0), .val (.int p1), .val (.int p2), .val (.int p3), .val (.int p4), .val (.int p5), .val (.int (1 : Int32)), .val (.ref tk_1), .val (.ref tk_4), .val (.ref tk_11), .val (.ref b18), .unset, .unset, .unset, .unset, .unset, .unset, .unset, .unset] [(.ref ts_101)]))
    refine Good.back (fun _ k => XS.astore X101.here hx rfl (hb hby at_92) rfl rfl (l' := #[.val (.int p0), .val (.int p1), .val (.int p2), .val (.int p3), .val (.int p4), .val (.int p5), .val (.int (1 : Int32)), .val (.ref tk_1), .val (.ref tk_4), .val (.ref tk_11), .val (.ref b18), .val (.ref ts_101), .unset, .unset, .unset, .unset, .unset, .unset, .unset]) rfl k) ?_
    refine Good.back (fun _ k => XS.aload X101.here hx rfl (hb hby at_94) rfl rfl k) ?_
    obtain ⟨_, _, ⟨T117, L117, k117, n117⟩, -, X117, ⟨Lc117, hQ117, l117, y117, z117⟩, st117⟩ := Jvm.LawKit.callS X101 hx (y := (⟨"com/example/liken/liken/core/TokenSlice", "held", "(Ljava/util/List;)Ljava/util/List;"⟩ : MethodName)) hown11 (mvT hZ11 (hw _ (own_m 104 rfl))) (mvT hZ11 (hw _ (own_m 105 rfl))) (mvT hZ11 (hw _ (own_m 106 rfl))) (mvT hZ11 (hw _ (own_m 107 rfl))) (by decide) (backOf (W := 0) (rm18T l Z a0 hw [] ts_101 li_101 T101.heap n0 Z115 o101_1 o101_2) hZ11 (hw _ (own_m 107 rfl)) (hw _ (own_m 106 rfl)) (by decide) (by decide)) (g := (mkF m 96 #[.val (.int p0), .val (.int p1), .val (.int p2), .val (.int p3), .val (.int p4), .val (.int p5), .val (.int (1 : Int32)), .val (.ref tk_1), .val (.ref tk_4), .val (.ref tk_11), .val (.ref b18), .val (.ref ts_101), .unset, .unset, .unset, .unset, .unset, .unset, .unset] [(.ref ts_101)])) rfl (by rw [hml]; rfl) (argsL := [(.ref ts_101)]) (rest := []) (lenOf own_pd567 rfl) rfl (by show 2 * 0 + _ ≤ _; exact Nat.le_of_eq rfl) (hb hby at_96) (fun _ _ => ⟨rfl, rfl, (by decide : 41 + 0 ≤ _), (by decide : 329 + 0 ≤ _)⟩)
    dsimp only [Pt.U, Pt.locs, Pt.cells, Pt.slots] at X117 l117 y117 z117 st117 hQ117
    subst l117 y117 z117
    obtain ⟨rfl, N117q, eh117⟩ := hQ117
    have N117 := Fr.app N101 N117q
    refine Good.back st117 ?_
    show Good p e below _ (T117.setTop (mkF m 99 #[.val (.int p0), .val (.int p1), .val (.int p2), .val (.int p3), .val (.int p4), .val (.int p5), .val (.int (1 : Int32)), .val (.ref tk_1), .val (.ref tk_4), .val (.ref tk_11), .val (.ref b18), .val (.ref ts_101), .unset, .unset, .unset, .unset, .unset, .unset, .unset] [(.ref li_101)]))
    refine Good.back (fun _ k => XS.astore X117.here hx rfl (hb hby at_99) rfl rfl (l' := #[.val (.int p0), .val (.int p1), .val (.int p2), .val (.int p3), .val (.int p4), .val (.int p5), .val (.int (1 : Int32)), .val (.ref tk_1), .val (.ref tk_4), .val (.ref tk_11), .val (.ref b18), .val (.ref ts_101), .val (.ref li_101), .unset, .unset, .unset, .unset, .unset, .unset]) rfl k) ?_
    refine Good.back (fun _ k => XS.aload X117.here hx rfl (hb hby at_101) rfl rfl k) ?_
    refine Good.back (fun _ k => XS.aload X117.here hx rfl (hb hby at_103) rfl rfl k) ?_
    show Good p e below _ (T117.setTop (mkF m 105 #[.val (.int p0), .val (.int p1), .val (.int p2), .val (.int p3), .val (.int p4), .val (.int p5), .val (.int (1 : Int32)), .val (.ref tk_1), .val (.ref tk_4), .val (.ref tk_11), .val (.ref b18), .val (.ref ts_101), .val (.ref li_101), .unset, .unset, .unset, .unset, .unset, .unset] [(.ref ts_101), (.ref li_101)]))
    have ne_li_101_ts_101_118 : li_101 ≠ ts_101 := Exa.ne o101_6 o101_1 (by decide)
    refine Good.back (fun _ k => Jvm.RoadKit.acmp (g := (mkF m 105 #[.val (.int p0), .val (.int p1), .val (.int p2), .val (.int p3), .val (.int p4), .val (.int p5), .val (.int (1 : Int32)), .val (.ref tk_1), .val (.ref tk_4), .val (.ref tk_11), .val (.ref b18), .val (.ref ts_101), .val (.ref li_101), .unset, .unset, .unset, .unset, .unset, .unset] [(.ref ts_101), (.ref li_101)])) X117 hx rfl rfl rfl (pc0 := 105) (pc' := 110) (same := false) rfl (hb hby at_105) rfl (decide_eq_false fun q => ne_li_101_ts_101_118 (Value.ref.inj q)) (by decide) (by decide) k) ?_
    show Good p e below _ (T117.setTop (mkF m 110 #[.val (.int p0), .val (.int p1), .val (.int p2), .val (.int p3), .val (.int p4), .val (.int p5), .val (.int (1 : Int32)), .val (.ref tk_1), .val (.ref tk_4), .val (.ref tk_11), .val (.ref b18), .val (.ref ts_101), .val (.ref li_101), .unset, .unset, .unset, .unset, .unset, .unset] []))
    refine Good.back (fun _ k => XS.aload X117.here hx rfl (hb hby at_110) rfl rfl k) ?_
    have f_120 : Sta Z T101.heap "java/util/ImmutableCollections" "EMPTY" "Ljava/lang/Object;" (.ref em) := own_staKeep f_108 Kq101 all0
    obtain ⟨cq119, kq119, q119a, q119b, q119c⟩ := isOf hZ11 eh117 o101_6
    obtain ⟨_, _, ⟨T119, L119, k119, n119⟩, -, X119, ⟨Lc119, hQ119, l119, y119, z119⟩, st119⟩ := X117.interfaceBack hx (xi := (⟨"java/util/List", "size", "()I"⟩ : MethodName)) (y := (⟨"java/util/ImmutableCollections$List12", "size", "()I"⟩ : MethodName)) hown11 (mvT hZ11 (hw _ (own_m 167 rfl))) (mvT hZ11 (hw _ (own_m 143 rfl))) (mvT hZ11 (hw _ (own_m 144 rfl))) (mvT hZ11 (hw _ (own_m 271 rfl))) (mvT hZ11 (hw _ (own_m 272 rfl))) (mvT hZ11 (hw _ (own_m 273 rfl))) (mvT hZ11 (hw _ (own_m 274 rfl))) (mvT hZ11 (hw _ (own_m 275 rfl))) (by decide) (backOf (W := 0) (rm43_1 l Z a0 hw [] li_101 em T101.heap n0 Z115 o101_8 f_120) hZ11 (hw _ (own_m 276 rfl)) (hw _ (own_m 244 rfl)) (by decide) (by decide)) q119a q119b q119c (g := (mkF m 112 #[.val (.int p0), .val (.int p1), .val (.int p2), .val (.int p3), .val (.int p4), .val (.int p5), .val (.int (1 : Int32)), .val (.ref tk_1), .val (.ref tk_4), .val (.ref tk_11), .val (.ref b18), .val (.ref ts_101), .val (.ref li_101), .unset, .unset, .unset, .unset, .unset, .unset] [(.ref li_101)])) rfl (by rw [hml]; rfl) (Steps.refl _) (argsL := []) (rest := []) (lenOf own_pd510 rfl) rfl (by show 2 * 0 + _ ≤ _; exact Nat.le_of_eq rfl) (hb hby at_112) (fun _ _ => ⟨rfl, eh117, (by decide : 41 + 0 ≤ _), (by decide : 329 + 0 ≤ _)⟩)
    dsimp only [Pt.U, Pt.locs, Pt.cells, Pt.slots] at X119 l119 y119 z119 st119 hQ119
    subst l119 y119 z119
    obtain ⟨rfl, N119q, eh119⟩ := hQ119
    have N119 := Fr.app N117 N119q
    refine Good.back (fun _ k => st119.trans k) ?_
    refine Good.back (fun _ k => XS.iload X119.here hx rfl (hb hby at_117) rfl k) ?_
    show Good p e below _ (T119.setTop (mkF m 119 #[.val (.int p0), .val (.int p1), .val (.int p2), .val (.int p3), .val (.int p4), .val (.int p5), .val (.int (1 : Int32)), .val (.ref tk_1), .val (.ref tk_4), .val (.ref tk_11), .val (.ref b18), .val (.ref ts_101), .val (.ref li_101), .unset, .unset, .unset, .unset, .unset, .unset] [(.int (1 : Int32)), (.int (1 : Int32))]))
    refine Good.back (fun _ k => XS.icmpYes X119.here hx rfl (pc0 := 119) (pc' := 124) rfl (hb hby at_119) rfl (teq (by decide : ((1 : Int32) = (1 : Int32)))).1 (by decide) (by decide) k) ?_
    show Good p e below _ (T119.setTop (mkF m 124 #[.val (.int p0), .val (.int p1), .val (.int p2), .val (.int p3), .val (.int p4), .val (.int p5), .val (.int (1 : Int32)), .val (.ref tk_1), .val (.ref tk_4), .val (.ref tk_11), .val (.ref b18), .val (.ref ts_101), .val (.ref li_101), .unset, .unset, .unset, .unset, .unset, .unset] []))
    refine Good.back (fun _ k => XS.iload X119.here hx rfl (hb hby at_124) rfl k) ?_
    show Good p e below _ (T119.setTop (mkF m 126 #[.val (.int p0), .val (.int p1), .val (.int p2), .val (.int p3), .val (.int p4), .val (.int p5), .val (.int (1 : Int32)), .val (.ref tk_1), .val (.ref tk_4), .val (.ref tk_11), .val (.ref b18), .val (.ref ts_101), .val (.ref li_101), .unset, .unset, .unset, .unset, .unset, .unset] [(.int (1 : Int32))]))
    refine Good.back (fun _ k => XS.ifNo X119.here hx rfl (hb hby at_126) rfl ((if0 _ _).trans (tlt (by decide : ((0 : Int32) < (1 : Int32)))).2.2.2) k) ?_
    show Good p e below _ (T119.setTop (mkF m 129 #[.val (.int p0), .val (.int p1), .val (.int p2), .val (.int p3), .val (.int p4), .val (.int p5), .val (.int (1 : Int32)), .val (.ref tk_1), .val (.ref tk_4), .val (.ref tk_11), .val (.ref b18), .val (.ref ts_101), .val (.ref li_101), .unset, .unset, .unset, .unset, .unset, .unset] []))
    refine Good.back (fun _ k => XS.aload X119.here hx rfl (hb hby at_129) rfl rfl k) ?_
    refine Good.back (fun _ k => XS.iconst X119.here hx rfl (hb hby at_131) k) ?_
    obtain ⟨cq121, kq121, q121a, q121b, q121c⟩ := isOf hZ11 eh119 o101_6
    obtain ⟨_, _, ⟨T121, L121, k121, n121⟩, -, X121, ⟨Lc121, hQ121, l121, y121, z121⟩, st121⟩ := X119.interfaceBack hx (xi := (⟨"java/util/List", "get", "(I)Ljava/lang/Object;"⟩ : MethodName)) (y := (⟨"java/util/ImmutableCollections$List12", "get", "(I)Ljava/lang/Object;"⟩ : MethodName)) hown11 (mvT hZ11 (hw _ (own_m 277 rfl))) (mvT hZ11 (hw _ (own_m 278 rfl))) (mvT hZ11 (hw _ (own_m 279 rfl))) (mvT hZ11 (hw _ (own_m 280 rfl))) (mvT hZ11 (hw _ (own_m 281 rfl))) (mvT hZ11 (hw _ (own_m 282 rfl))) (mvT hZ11 (hw _ (own_m 283 rfl))) (mvT hZ11 (hw _ (own_m 275 rfl))) (by decide) (backOf (W := 0) (rm44_0 l Z a0 hw [] li_101 tk_1 T101.heap n0 Z115 o101_7) hZ11 (hw _ (own_m 284 rfl)) (hw _ (own_m 244 rfl)) (by decide) (by decide)) q121a q121b q121c (g := (mkF m 132 #[.val (.int p0), .val (.int p1), .val (.int p2), .val (.int p3), .val (.int p4), .val (.int p5), .val (.int (1 : Int32)), .val (.ref tk_1), .val (.ref tk_4), .val (.ref tk_11), .val (.ref b18), .val (.ref ts_101), .val (.ref li_101), .unset, .unset, .unset, .unset, .unset, .unset] [(.int (0 : Int32)), (.ref li_101)])) rfl (by rw [hml]; rfl) (Steps.refl _) (argsL := [(.int (0 : Int32))]) (rest := []) (lenOf own_pd570 rfl) rfl (by show 2 * 0 + _ ≤ _; exact Nat.le_of_eq rfl) (hb hby at_132) (fun _ _ => ⟨rfl, eh119, (by decide : 41 + 0 ≤ _), (by decide : 329 + 0 ≤ _)⟩)
    dsimp only [Pt.U, Pt.locs, Pt.cells, Pt.slots] at X121 l121 y121 z121 st121 hQ121
    subst l121 y121 z121
    obtain ⟨rfl, N121q, eh121⟩ := hQ121
    have N121 := Fr.app N119 N121q
    refine Good.back (fun _ k => st121.trans k) ?_
    refine Good.back (fun _ k => XS.aload X121.here hx rfl (hb hby at_137) rfl rfl k) ?_
    show Good p e below _ (T121.setTop (mkF m 139 #[.val (.int p0), .val (.int p1), .val (.int p2), .val (.int p3), .val (.int p4), .val (.int p5), .val (.int (1 : Int32)), .val (.ref tk_1), .val (.ref tk_4), .val (.ref tk_11), .val (.ref b18), .val (.ref ts_101), .val (.ref li_101), .unset, .unset, .unset, .unset, .unset, .unset] [(.ref tk_1), (.ref tk_1)]))
    refine Good.back (fun _ k => Jvm.RoadKit.acmp (g := (mkF m 139 #[.val (.int p0), .val (.int p1), .val (.int p2), .val (.int p3), .val (.int p4), .val (.int p5), .val (.int (1 : Int32)), .val (.ref tk_1), .val (.ref tk_4), .val (.ref tk_11), .val (.ref b18), .val (.ref ts_101), .val (.ref li_101), .unset, .unset, .unset, .unset, .unset, .unset] [(.ref tk_1), (.ref tk_1)])) X121 hx rfl rfl rfl (pc0 := 139) (pc' := 144) (same := true) rfl (hb hby at_139) rfl (decide_eq_true rfl) (by decide) (by decide) k) ?_
    show Good p e below _ (T121.setTop (mkF m 144 #[.val (.int p0), .val (.int p1), .val (.int p2), .val (.int p3), .val (.int p4), .val (.int p5), .val (.int (1 : Int32)), .val (.ref tk_1), .val (.ref tk_4), .val (.ref tk_11), .val (.ref b18), .val (.ref ts_101), .val (.ref li_101), .unset, .unset, .unset, .unset, .unset, .unset] []))
    refine Good.back (fun _ k => XS.iload X121.here hx rfl (hb hby at_144) rfl k) ?_
    refine Good.back (fun _ k => XS.iconst X121.here hx rfl (hb hby at_146) k) ?_
    show Good p e below _ (T121.setTop (mkF m 147 #[.val (.int p0), .val (.int p1), .val (.int p2), .val (.int p3), .val (.int p4), .val (.int p5), .val (.int (1 : Int32)), .val (.ref tk_1), .val (.ref tk_4), .val (.ref tk_11), .val (.ref b18), .val (.ref ts_101), .val (.ref li_101), .unset, .unset, .unset, .unset, .unset, .unset] [(.int (1 : Int32)), (.int (1 : Int32))]))
    refine Good.back (fun _ k => XS.icmpYes X121.here hx rfl (pc0 := 147) (pc' := 165) rfl (hb hby at_147) rfl (flt (by decide : ¬ ((1 : Int32) < (1 : Int32)))).2.2.2 (by decide) (by decide) k) ?_
    show Good p e below _ (T121.setTop (mkF m 165 #[.val (.int p0), .val (.int p1), .val (.int p2), .val (.int p3), .val (.int p4), .val (.int p5), .val (.int (1 : Int32)), .val (.ref tk_1), .val (.ref tk_4), .val (.ref tk_11), .val (.ref b18), .val (.ref ts_101), .val (.ref li_101), .unset, .unset, .unset, .unset, .unset, .unset] []))
    refine Good.back (fun _ k => XS.iload X121.here hx rfl (hb hby at_165) rfl k) ?_
    refine Good.back (fun _ k => XS.iconst X121.here hx rfl (hb hby at_167) k) ?_
    show Good p e below _ (T121.setTop (mkF m 168 #[.val (.int p0), .val (.int p1), .val (.int p2), .val (.int p3), .val (.int p4), .val (.int p5), .val (.int (1 : Int32)), .val (.ref tk_1), .val (.ref tk_4), .val (.ref tk_11), .val (.ref b18), .val (.ref ts_101), .val (.ref li_101), .unset, .unset, .unset, .unset, .unset, .unset] [(.int (2 : Int32)), (.int (1 : Int32))]))
    refine Good.back (fun _ k => XS.icmpYes X121.here hx rfl (pc0 := 168) (pc' := 186) rfl (hb hby at_168) rfl (flt (by decide : ¬ ((2 : Int32) < (1 : Int32)))).2.2.2 (by decide) (by decide) k) ?_
    show Good p e below _ (T121.setTop (mkF m 186 #[.val (.int p0), .val (.int p1), .val (.int p2), .val (.int p3), .val (.int p4), .val (.int p5), .val (.int (1 : Int32)), .val (.ref tk_1), .val (.ref tk_4), .val (.ref tk_11), .val (.ref b18), .val (.ref ts_101), .val (.ref li_101), .unset, .unset, .unset, .unset, .unset, .unset] []))
    exact key186 (1 : Int32) ts_101 li_101 T101.heap _ _ (X121.mono (by decide) (by decide)) N121 eh121 (Z115) (hk116) (o101_1) (o101_2) (o101_3) (o101_4) (by decide)
  · have he41' : (p0 &&& (3 : Int32)) = (2 : Int32) := he41
    rw [he41']
    refine Good.back (fun _ k => XS.iload X25.here hx rfl (hb hby at_34) rfl k) ?_
    show Good p e below _ (T25.setTop (mkF m 36 #[.val (.int p0), .val (.int p1), .val (.int p2), .val (.int p3), .val (.int p4), .val (.int p5), .val (.int (2 : Int32)), .val (.ref tk_1), .val (.ref tk_4), .val (.ref tk_11), .val (.ref b18), .unset, .unset, .unset, .unset, .unset, .unset, .unset, .unset] [(.int (2 : Int32))]))
    refine Good.back (fun _ k => XS.ifNo X25.here hx rfl (hb hby at_36) rfl ((if0 _ _).trans (tlt (by decide : ((0 : Int32) < (2 : Int32)))).2.2.2) k) ?_
    show Good p e below _ (T25.setTop (mkF m 39 #[.val (.int p0), .val (.int p1), .val (.int p2), .val (.int p3), .val (.int p4), .val (.int p5), .val (.int (2 : Int32)), .val (.ref tk_1), .val (.ref tk_4), .val (.ref tk_11), .val (.ref b18), .unset, .unset, .unset, .unset, .unset, .unset, .unset, .unset] []))
    refine Good.back (fun _ k => XS.aload X25.here hx rfl (hb hby at_39) rfl rfl k) ?_
    refine Good.back (fun _ k => XS.aload X25.here hx rfl (hb hby at_41) rfl rfl k) ?_
    have f_123 : Exa Z T25.heap b18 "java/util/ArrayList" := Exa.keep f_21 Kq25
    have f_124 : Exa Z T4.heap tk_1 "com/example/liken/liken/core/Token" := Exa.keep o1_1 Kq4
    have f_125 : Exa Z T11.heap tk_1 "com/example/liken/liken/core/Token" := Exa.keep f_124 Kq11
    have f_126 : Exa Z h18 tk_1 "com/example/liken/liken/core/Token" := Exa.ext E18 f_125
    have f_127 : Exa Z T25.heap tk_1 "com/example/liken/liken/core/Token" := Exa.keep f_126 Kq25
    have f_128 : Sta Z T25.heap "java/util/ArrayList" "DEFAULTCAPACITY_EMPTY_ELEMENTDATA" "[Ljava/lang/Object;" (.ref de) := own_staKeep f_29 Kq25 (allS (own_plainE f_21) all0)
    have f_129 : Arv Z T1.heap de kd (.object "java/lang/Object") (0 : Int32) [] .null := Arv.keep Vd Kq1 nin0
    have f_130 : Arv Z T4.heap de kd (.object "java/lang/Object") (0 : Int32) [] .null := Arv.keep f_129 Kq4 nin0
    have f_131 : Arv Z T11.heap de kd (.object "java/lang/Object") (0 : Int32) [] .null := Arv.keep f_130 Kq11 nin0
    have f_132 : Arv Z h18 de kd (.object "java/lang/Object") (0 : Int32) [] .null := Arv.ext f_131 E18
    have f_134 : Arv Z T1.heap de kd (.object "java/lang/Object") (0 : Int32) [] .null := Arv.keep Vd Kq1 nin0
    have f_135 : Arv Z T4.heap de kd (.object "java/lang/Object") (0 : Int32) [] .null := Arv.keep f_134 Kq4 nin0
    have f_136 : Arv Z T11.heap de kd (.object "java/lang/Object") (0 : Int32) [] .null := Arv.keep f_135 Kq11 nin0
    have ne_de_b18_137 : de ≠ b18 := Nat.ne_of_lt (Nat.lt_of_lt_of_le f_136.lt (Nat.le_of_eq g18.symm))
    have f_133 : Arv Z T25.heap de kd (.object "java/lang/Object") (0 : Int32) [] .null := Arv.keep f_132 Kq25 (ninS ne_de_b18_137 nin0)
    obtain ⟨cq122, kq122, q122a, q122b, q122c⟩ := isOf hZ11 rfl f_123
    obtain ⟨_, _, ⟨T122, L122, k122, n122⟩, -, X122, ⟨Lc122, hQ122, l122, y122, z122⟩, st122⟩ := X25.virtualBack hx (y := (⟨"java/util/ArrayList", "add", "(Ljava/lang/Object;)Z"⟩ : MethodName)) (z := (⟨"java/util/ArrayList", "add", "(Ljava/lang/Object;)Z"⟩ : MethodName)) hown11 (mvT hZ11 (hw _ (own_m 180 rfl))) (mvT hZ11 (hw _ (own_m 181 rfl))) (notFace_of_selects (args := #[]) (mvT hZ11 (hw _ (own_m 183 rfl)))) (mvT hZ11 (hw _ (own_m 183 rfl))) (mvT hZ11 (hw _ (own_m 182 rfl))) (by decide) (backOf (W := 0) (rm29_0 l Z a0 hw [] b18 tk_1 de kd (0 : Int32) T25.heap n0 Z30 f_123 g_b18 f_127 o25_0 o25_1 o25_2 f_128 f_133) hZ11 (hw _ (own_m 184 rfl)) (hw _ (own_m 82 rfl)) (by decide) (by decide)) q122a q122c (g := (mkF m 43 #[.val (.int p0), .val (.int p1), .val (.int p2), .val (.int p3), .val (.int p4), .val (.int p5), .val (.int (2 : Int32)), .val (.ref tk_1), .val (.ref tk_4), .val (.ref tk_11), .val (.ref b18), .unset, .unset, .unset, .unset, .unset, .unset, .unset, .unset] [(.ref tk_1), (.ref b18)])) rfl (by rw [hml]; rfl) (Steps.refl _) (argsL := [(.ref tk_1)]) (rest := []) (lenOf own_pd569 rfl) rfl (by show 2 * 0 + _ ≤ _; exact Nat.le_of_eq rfl) (hb hby at_43) (fun _ _ => ⟨rfl, rfl, (by decide : 37 + 1 ≤ _), (by decide : 312 + 10 ≤ _)⟩)
    dsimp only [Pt.U, Pt.locs, Pt.cells, Pt.slots] at X122 l122 y122 z122 st122 hQ122
    subst l122 y122 z122
    obtain ⟨ar_122, kk_122, rfl, N122q, Kq122, o122_0, o122_1, o122_2, o122_3, o122_4, o122_5, o122_6⟩ := hQ122
    have N122 := Fr.app N25 N122q
    have Z138 : n0 ≤ T122.heap.size := Nat.le_trans Z30 Kq122.1
    have hk139 := Nat.le_trans hk31 Kq122.1
    have g_ar_122 : n0 ≤ ar_122 := Nat.le_trans Z30 o122_0
    refine Good.back (fun _ k => st122.trans k) ?_
    show Good p e below _ (T122.setTop (mkF m 46 #[.val (.int p0), .val (.int p1), .val (.int p2), .val (.int p3), .val (.int p4), .val (.int p5), .val (.int (2 : Int32)), .val (.ref tk_1), .val (.ref tk_4), .val (.ref tk_11), .val (.ref b18), .unset, .unset, .unset, .unset, .unset, .unset, .unset, .unset] [(.int (1 : Int32))]))
    refine Good.back (fun _ k => XS.pop X122.here hx rfl (hb hby at_46) rfl rfl k) ?_
    refine Good.back (fun _ k => XS.iload X122.here hx rfl (hb hby at_47) rfl k) ?_
    refine Good.back (fun _ k => XS.iconst X122.here hx rfl (hb hby at_49) k) ?_
    show Good p e below _ (T122.setTop (mkF m 50 #[.val (.int p0), .val (.int p1), .val (.int p2), .val (.int p3), .val (.int p4), .val (.int p5), .val (.int (2 : Int32)), .val (.ref tk_1), .val (.ref tk_4), .val (.ref tk_11), .val (.ref b18), .unset, .unset, .unset, .unset, .unset, .unset, .unset, .unset] [(.int (1 : Int32)), (.int (2 : Int32))]))
    refine Good.back (fun _ k => XS.icmpNo X122.here hx rfl (hb hby at_50) rfl (tlt (by decide : ((1 : Int32) < (2 : Int32)))).2.2.2 k) ?_
    show Good p e below _ (T122.setTop (mkF m 53 #[.val (.int p0), .val (.int p1), .val (.int p2), .val (.int p3), .val (.int p4), .val (.int p5), .val (.int (2 : Int32)), .val (.ref tk_1), .val (.ref tk_4), .val (.ref tk_11), .val (.ref b18), .unset, .unset, .unset, .unset, .unset, .unset, .unset, .unset] []))
    refine Good.back (fun _ k => XS.aload X122.here hx rfl (hb hby at_53) rfl rfl k) ?_
    refine Good.back (fun _ k => XS.aload X122.here hx rfl (hb hby at_55) rfl rfl k) ?_
    have f_141 : Exa Z T122.heap b18 "java/util/ArrayList" := Exa.keep f_123 Kq122
    have f_142 : Exa Z T11.heap tk_4 "com/example/liken/liken/core/Token" := Exa.keep o4_1 Kq11
    have f_143 : Exa Z h18 tk_4 "com/example/liken/liken/core/Token" := Exa.ext E18 f_142
    have f_144 : Exa Z T25.heap tk_4 "com/example/liken/liken/core/Token" := Exa.keep f_143 Kq25
    have f_145 : Exa Z T122.heap tk_4 "com/example/liken/liken/core/Token" := Exa.keep f_144 Kq122
    have ne_b18_ar_122_146 : b18 ≠ ar_122 := Nat.ne_of_lt (Nat.lt_of_lt_of_le f_123.lt o122_0)
    obtain ⟨cq140, kq140, q140a, q140b, q140c⟩ := isOf hZ11 rfl f_141
    obtain ⟨_, _, ⟨T140, L140, k140, n140⟩, -, X140, ⟨Lc140, hQ140, l140, y140, z140⟩, st140⟩ := X122.virtualBack hx (y := (⟨"java/util/ArrayList", "add", "(Ljava/lang/Object;)Z"⟩ : MethodName)) (z := (⟨"java/util/ArrayList", "add", "(Ljava/lang/Object;)Z"⟩ : MethodName)) hown11 (mvT hZ11 (hw _ (own_m 180 rfl))) (mvT hZ11 (hw _ (own_m 181 rfl))) (notFace_of_selects (args := #[]) (mvT hZ11 (hw _ (own_m 183 rfl)))) (mvT hZ11 (hw _ (own_m 183 rfl))) (mvT hZ11 (hw _ (own_m 182 rfl))) (by decide) (backOf (W := 0) (rm29_1 l Z a0 hw [] b18 tk_4 ar_122 kk_122 ((0 : Int32) + (1 : Int32)) tk_1 T122.heap n0 Z138 f_141 g_b18 f_145 o122_4 o122_2 (by first | assumption | decide) g_ar_122 ne_b18_ar_122_146 o122_5 o122_6) hZ11 (hw _ (own_m 184 rfl)) (hw _ (own_m 82 rfl)) (by decide) (by decide)) q140a q140c (g := (mkF m 57 #[.val (.int p0), .val (.int p1), .val (.int p2), .val (.int p3), .val (.int p4), .val (.int p5), .val (.int (2 : Int32)), .val (.ref tk_1), .val (.ref tk_4), .val (.ref tk_11), .val (.ref b18), .unset, .unset, .unset, .unset, .unset, .unset, .unset, .unset] [(.ref tk_4), (.ref b18)])) rfl (by rw [hml]; rfl) (Steps.refl _) (argsL := [(.ref tk_4)]) (rest := []) (lenOf own_pd569 rfl) rfl (by show 2 * 0 + _ ≤ _; exact Nat.le_of_eq rfl) (hb hby at_57) (fun _ _ => ⟨rfl, rfl, (by decide : 38 + 0 ≤ _), (by decide : 322 + 0 ≤ _)⟩)
    dsimp only [Pt.U, Pt.locs, Pt.cells, Pt.slots] at X140 l140 y140 z140 st140 hQ140
    subst l140 y140 z140
    obtain ⟨rfl, N140q, Kq140, o140_0, o140_1, o140_2, o140_3⟩ := hQ140
    have N140 := Fr.app N122 N140q
    have Z147 : n0 ≤ T140.heap.size := Nat.le_trans Z138 Kq140.1
    have hk148 := Nat.le_trans hk139 Kq140.1
    refine Good.back (fun _ k => st140.trans k) ?_
    show Good p e below _ (T140.setTop (mkF m 60 #[.val (.int p0), .val (.int p1), .val (.int p2), .val (.int p3), .val (.int p4), .val (.int p5), .val (.int (2 : Int32)), .val (.ref tk_1), .val (.ref tk_4), .val (.ref tk_11), .val (.ref b18), .unset, .unset, .unset, .unset, .unset, .unset, .unset, .unset] [(.int (1 : Int32))]))
    refine Good.back (fun _ k => XS.pop X140.here hx rfl (hb hby at_60) rfl rfl k) ?_
    refine Good.back (fun _ k => XS.iload X140.here hx rfl (hb hby at_61) rfl k) ?_
    refine Good.back (fun _ k => XS.iconst X140.here hx rfl (hb hby at_63) k) ?_
    show Good p e below _ (T140.setTop (mkF m 64 #[.val (.int p0), .val (.int p1), .val (.int p2), .val (.int p3), .val (.int p4), .val (.int p5), .val (.int (2 : Int32)), .val (.ref tk_1), .val (.ref tk_4), .val (.ref tk_11), .val (.ref b18), .unset, .unset, .unset, .unset, .unset, .unset, .unset, .unset] [(.int (2 : Int32)), (.int (2 : Int32))]))
    refine Good.back (fun _ k => XS.icmpYes X140.here hx rfl (pc0 := 64) (pc' := 75) rfl (hb hby at_64) rfl (flt (by decide : ¬ ((2 : Int32) < (2 : Int32)))).2.2.2 (by decide) (by decide) k) ?_
    show Good p e below _ (T140.setTop (mkF m 75 #[.val (.int p0), .val (.int p1), .val (.int p2), .val (.int p3), .val (.int p4), .val (.int p5), .val (.int (2 : Int32)), .val (.ref tk_1), .val (.ref tk_4), .val (.ref tk_11), .val (.ref b18), .unset, .unset, .unset, .unset, .unset, .unset, .unset, .unset] []))
    refine Good.back (fun _ k => XS.aload X140.here hx rfl (hb hby at_75) rfl rfl k) ?_
    have f_150 : Exa Z T140.heap b18 "java/util/ArrayList" := Exa.keep f_141 Kq140
    obtain ⟨_, _, ⟨T149, L149, k149, n149⟩, -, X149, ⟨Lc149, hQ149, l149, y149, z149⟩, st149⟩ := Jvm.LawKit.callS X140 hx (y := (⟨"com/example/liken/liken/core/TokenSlice", "held", "(Ljava/util/List;)Ljava/util/List;"⟩ : MethodName)) hown11 (mvT hZ11 (hw _ (own_m 104 rfl))) (mvT hZ11 (hw _ (own_m 105 rfl))) (mvT hZ11 (hw _ (own_m 106 rfl))) (mvT hZ11 (hw _ (own_m 107 rfl))) (by decide) (backOf (W := 0) (rm18A l Z a0 hw [] b18  T140.heap n0 Z147 f_150) hZ11 (hw _ (own_m 107 rfl)) (hw _ (own_m 106 rfl)) (by decide) (by decide)) (g := (mkF m 77 #[.val (.int p0), .val (.int p1), .val (.int p2), .val (.int p3), .val (.int p4), .val (.int p5), .val (.int (2 : Int32)), .val (.ref tk_1), .val (.ref tk_4), .val (.ref tk_11), .val (.ref b18), .unset, .unset, .unset, .unset, .unset, .unset, .unset, .unset] [(.ref b18)])) rfl (by rw [hml]; rfl) (argsL := [(.ref b18)]) (rest := []) (lenOf own_pd567 rfl) rfl (by show 2 * 0 + _ ≤ _; exact Nat.le_of_eq rfl) (hb hby at_77) (fun _ _ => ⟨rfl, rfl, (by decide : 38 + 0 ≤ _), (by decide : 322 + 0 ≤ _)⟩)
    dsimp only [Pt.U, Pt.locs, Pt.cells, Pt.slots] at X149 l149 y149 z149 st149 hQ149
    subst l149 y149 z149
    obtain ⟨rfl, N149q, eh149⟩ := hQ149
    have N149 := Fr.app N140 N149q
    refine Good.back st149 ?_
    refine Good.back (fun _ k => XS.aload X149.here hx rfl (hb hby at_80) rfl rfl k) ?_
    show Good p e below _ (T149.setTop (mkF m 82 #[.val (.int p0), .val (.int p1), .val (.int p2), .val (.int p3), .val (.int p4), .val (.int p5), .val (.int (2 : Int32)), .val (.ref tk_1), .val (.ref tk_4), .val (.ref tk_11), .val (.ref b18), .unset, .unset, .unset, .unset, .unset, .unset, .unset, .unset] [(.ref b18), (.ref b18)]))
    refine Good.back (fun _ k => Jvm.RoadKit.acmp (g := (mkF m 82 #[.val (.int p0), .val (.int p1), .val (.int p2), .val (.int p3), .val (.int p4), .val (.int p5), .val (.int (2 : Int32)), .val (.ref tk_1), .val (.ref tk_4), .val (.ref tk_11), .val (.ref b18), .unset, .unset, .unset, .unset, .unset, .unset, .unset, .unset] [(.ref b18), (.ref b18)])) X149 hx rfl rfl rfl (pc0 := 82) (pc' := 87) (same := true) rfl (hb hby at_82) rfl (decide_eq_true rfl) (by decide) (by decide) k) ?_
    show Good p e below _ (T149.setTop (mkF m 87 #[.val (.int p0), .val (.int p1), .val (.int p2), .val (.int p3), .val (.int p4), .val (.int p5), .val (.int (2 : Int32)), .val (.ref tk_1), .val (.ref tk_4), .val (.ref tk_11), .val (.ref b18), .unset, .unset, .unset, .unset, .unset, .unset, .unset, .unset] []))
    refine Good.back (fun _ k => XS.aload X149.here hx rfl (hb hby at_87) rfl rfl k) ?_
    have f_152 : Exa Z T140.heap ar_122 "[Ljava/lang/Object;" := Exa.keep o122_1 Kq140
    have f_153 : Exa Z T122.heap tk_1 "com/example/liken/liken/core/Token" := Exa.keep f_127 Kq122
    have f_154 : Exa Z T140.heap tk_1 "com/example/liken/liken/core/Token" := Exa.keep f_153 Kq140
    have f_155 : Exa Z T140.heap tk_4 "com/example/liken/liken/core/Token" := Exa.keep f_145 Kq140
    have f_156 : Sta Z T1.heap "java/util/ImmutableCollections" "EMPTY" "Ljava/lang/Object;" (.ref em) := own_staKeep S_em Kq1 all0
    have f_157 : Sta Z T4.heap "java/util/ImmutableCollections" "EMPTY" "Ljava/lang/Object;" (.ref em) := own_staKeep f_156 Kq4 all0
    have f_158 : Sta Z T11.heap "java/util/ImmutableCollections" "EMPTY" "Ljava/lang/Object;" (.ref em) := own_staKeep f_157 Kq11 all0
    have f_159 : Sta Z h18 "java/util/ImmutableCollections" "EMPTY" "Ljava/lang/Object;" (.ref em) := Sta.ext E18 f_158
    have f_160 : Sta Z T25.heap "java/util/ImmutableCollections" "EMPTY" "Ljava/lang/Object;" (.ref em) := own_staKeep f_159 Kq25 (allS (own_plainE f_21) all0)
    have f_161 : Sta Z T122.heap "java/util/ImmutableCollections" "EMPTY" "Ljava/lang/Object;" (.ref em) := own_staKeep f_160 Kq122 (allS (own_plainE f_123) all0)
    have f_162 : Sta Z T140.heap "java/util/ImmutableCollections" "EMPTY" "Ljava/lang/Object;" (.ref em) := own_staKeep f_161 Kq140 (allS (own_plainE f_141) (allS (own_plainV o122_2) all0))
    have f_163 : Exa Z T1.heap em "java/lang/Object" := Exa.keep E_em Kq1
    have f_164 : Exa Z T4.heap em "java/lang/Object" := Exa.keep f_163 Kq4
    have f_165 : Exa Z T11.heap em "java/lang/Object" := Exa.keep f_164 Kq11
    have f_166 : Exa Z h18 em "java/lang/Object" := Exa.ext E18 f_165
    have f_167 : Exa Z T25.heap em "java/lang/Object" := Exa.keep f_166 Kq25
    have f_168 : Exa Z T122.heap em "java/lang/Object" := Exa.keep f_167 Kq122
    have f_169 : Exa Z T140.heap em "java/lang/Object" := Exa.keep f_168 Kq140
    obtain ⟨_, _, ⟨T151, L151, k151, n151⟩, -, X151, ⟨Lc151, hQ151, l151, y151, z151⟩, st151⟩ := Jvm.LawKit.callS X149 hx (y := (⟨"com/example/liken/liken/core/TokenSlice", "of", "(Ljava/util/List;)Lcom/example/liken/liken/core/TokenSlice;"⟩ : MethodName)) hown11 (mvT hZ11 (hw _ (own_m 113 rfl))) (mvT hZ11 (hw _ (own_m 114 rfl))) (mvT hZ11 (hw _ (own_m 106 rfl))) (mvT hZ11 (hw _ (own_m 115 rfl))) (by decide) (backOf (W := 0) (rm19_2 l Z a0 hw [] b18 ar_122 kk_122 mr tk_1 tk_4 em T140.heap n0 Z147 f_150 o140_1 o140_2 f_152 o140_0 (by first | assumption | decide) f_154 f_155 f_162 f_169) hZ11 (hw _ (own_m 115 rfl)) (hw _ (own_m 106 rfl)) (by decide) (by decide)) (g := (mkF m 89 #[.val (.int p0), .val (.int p1), .val (.int p2), .val (.int p3), .val (.int p4), .val (.int p5), .val (.int (2 : Int32)), .val (.ref tk_1), .val (.ref tk_4), .val (.ref tk_11), .val (.ref b18), .unset, .unset, .unset, .unset, .unset, .unset, .unset, .unset] [(.ref b18)])) rfl (by rw [hml]; rfl) (argsL := [(.ref b18)]) (rest := []) (lenOf own_pd568 rfl) rfl (by show 2 * 0 + _ ≤ _; exact Nat.le_of_eq rfl) (hb hby at_89) (fun _ _ => ⟨rfl, eh149, (by decide : 38 + 3 ≤ _), (by decide : 322 + 8 ≤ _)⟩)
    dsimp only [Pt.U, Pt.locs, Pt.cells, Pt.slots] at X151 l151 y151 z151 st151 hQ151
    subst l151 y151 z151
    obtain ⟨ts_151, li_151, rfl, N151q, Kq151, o151_0, o151_1, o151_2, o151_3, o151_4, o151_5, o151_6, o151_7, o151_8⟩ := hQ151
    have N151 := Fr.app N149 N151q
    have Z170 : n0 ≤ T151.heap.size := Nat.le_trans Z147 Kq151.1
    have hk171 := Nat.le_trans hk148 Kq151.1
    have g_ts_151 : n0 ≤ ts_151 := Nat.le_trans Z147 o151_0
    have g_li_151 : n0 ≤ li_151 := Nat.le_trans Z147 o151_5
    refine Good.back st151 ?_
    show Good p e below _ (T151.setTop (mkF m 92 #[.val (.int p0), .val (.int p1), .val (.int p2), .val (.int p3), .val (.int p4), .val (.int p5), .val (.int (2 : Int32)), .val (.ref tk_1), .val (.ref tk_4), .val (.ref tk_11), .val (.ref b18), .unset, .unset, .unset, .unset, .unset, .unset, .unset, .unset] [(.ref ts_151)]))
    refine Good.back (fun _ k => XS.astore X151.here hx rfl (hb hby at_92) rfl rfl (l' := #[.val (.int p0), .val (.int p1), .val (.int p2), .val (.int p3), .val (.int p4), .val (.int p5), .val (.int (2 : Int32)), .val (.ref tk_1), .val (.ref tk_4), .val (.ref tk_11), .val (.ref b18), .val (.ref ts_151), .unset, .unset, .unset, .unset, .unset, .unset, .unset]) rfl k) ?_
    refine Good.back (fun _ k => XS.aload X151.here hx rfl (hb hby at_94) rfl rfl k) ?_
    obtain ⟨_, _, ⟨T172, L172, k172, n172⟩, -, X172, ⟨Lc172, hQ172, l172, y172, z172⟩, st172⟩ := Jvm.LawKit.callS X151 hx (y := (⟨"com/example/liken/liken/core/TokenSlice", "held", "(Ljava/util/List;)Ljava/util/List;"⟩ : MethodName)) hown11 (mvT hZ11 (hw _ (own_m 104 rfl))) (mvT hZ11 (hw _ (own_m 105 rfl))) (mvT hZ11 (hw _ (own_m 106 rfl))) (mvT hZ11 (hw _ (own_m 107 rfl))) (by decide) (backOf (W := 0) (rm18T l Z a0 hw [] ts_151 li_151 T151.heap n0 Z170 o151_1 o151_2) hZ11 (hw _ (own_m 107 rfl)) (hw _ (own_m 106 rfl)) (by decide) (by decide)) (g := (mkF m 96 #[.val (.int p0), .val (.int p1), .val (.int p2), .val (.int p3), .val (.int p4), .val (.int p5), .val (.int (2 : Int32)), .val (.ref tk_1), .val (.ref tk_4), .val (.ref tk_11), .val (.ref b18), .val (.ref ts_151), .unset, .unset, .unset, .unset, .unset, .unset, .unset] [(.ref ts_151)])) rfl (by rw [hml]; rfl) (argsL := [(.ref ts_151)]) (rest := []) (lenOf own_pd567 rfl) rfl (by show 2 * 0 + _ ≤ _; exact Nat.le_of_eq rfl) (hb hby at_96) (fun _ _ => ⟨rfl, rfl, (by decide : 41 + 0 ≤ _), (by decide : 330 + 0 ≤ _)⟩)
    dsimp only [Pt.U, Pt.locs, Pt.cells, Pt.slots] at X172 l172 y172 z172 st172 hQ172
    subst l172 y172 z172
    obtain ⟨rfl, N172q, eh172⟩ := hQ172
    have N172 := Fr.app N151 N172q
    refine Good.back st172 ?_
    show Good p e below _ (T172.setTop (mkF m 99 #[.val (.int p0), .val (.int p1), .val (.int p2), .val (.int p3), .val (.int p4), .val (.int p5), .val (.int (2 : Int32)), .val (.ref tk_1), .val (.ref tk_4), .val (.ref tk_11), .val (.ref b18), .val (.ref ts_151), .unset, .unset, .unset, .unset, .unset, .unset, .unset] [(.ref li_151)]))
    refine Good.back (fun _ k => XS.astore X172.here hx rfl (hb hby at_99) rfl rfl (l' := #[.val (.int p0), .val (.int p1), .val (.int p2), .val (.int p3), .val (.int p4), .val (.int p5), .val (.int (2 : Int32)), .val (.ref tk_1), .val (.ref tk_4), .val (.ref tk_11), .val (.ref b18), .val (.ref ts_151), .val (.ref li_151), .unset, .unset, .unset, .unset, .unset, .unset]) rfl k) ?_
    refine Good.back (fun _ k => XS.aload X172.here hx rfl (hb hby at_101) rfl rfl k) ?_
    refine Good.back (fun _ k => XS.aload X172.here hx rfl (hb hby at_103) rfl rfl k) ?_
    show Good p e below _ (T172.setTop (mkF m 105 #[.val (.int p0), .val (.int p1), .val (.int p2), .val (.int p3), .val (.int p4), .val (.int p5), .val (.int (2 : Int32)), .val (.ref tk_1), .val (.ref tk_4), .val (.ref tk_11), .val (.ref b18), .val (.ref ts_151), .val (.ref li_151), .unset, .unset, .unset, .unset, .unset, .unset] [(.ref ts_151), (.ref li_151)]))
    have ne_li_151_ts_151_173 : li_151 ≠ ts_151 := Exa.ne o151_6 o151_1 (by decide)
    refine Good.back (fun _ k => Jvm.RoadKit.acmp (g := (mkF m 105 #[.val (.int p0), .val (.int p1), .val (.int p2), .val (.int p3), .val (.int p4), .val (.int p5), .val (.int (2 : Int32)), .val (.ref tk_1), .val (.ref tk_4), .val (.ref tk_11), .val (.ref b18), .val (.ref ts_151), .val (.ref li_151), .unset, .unset, .unset, .unset, .unset, .unset] [(.ref ts_151), (.ref li_151)])) X172 hx rfl rfl rfl (pc0 := 105) (pc' := 110) (same := false) rfl (hb hby at_105) rfl (decide_eq_false fun q => ne_li_151_ts_151_173 (Value.ref.inj q)) (by decide) (by decide) k) ?_
    show Good p e below _ (T172.setTop (mkF m 110 #[.val (.int p0), .val (.int p1), .val (.int p2), .val (.int p3), .val (.int p4), .val (.int p5), .val (.int (2 : Int32)), .val (.ref tk_1), .val (.ref tk_4), .val (.ref tk_11), .val (.ref b18), .val (.ref ts_151), .val (.ref li_151), .unset, .unset, .unset, .unset, .unset, .unset] []))
    refine Good.back (fun _ k => XS.aload X172.here hx rfl (hb hby at_110) rfl rfl k) ?_
    have f_175 : Sta Z T151.heap "java/util/ImmutableCollections" "EMPTY" "Ljava/lang/Object;" (.ref em) := own_staKeep f_162 Kq151 all0
    have f_176 : Exa Z T1.heap em "java/lang/Object" := Exa.keep E_em Kq1
    have ne_em_tk_4_177 : em ≠ tk_4 := Nat.ne_of_lt (Nat.lt_of_lt_of_le f_176.lt o4_0)
    obtain ⟨cq174, kq174, q174a, q174b, q174c⟩ := isOf hZ11 eh172 o151_6
    obtain ⟨_, _, ⟨T174, L174, k174, n174⟩, -, X174, ⟨Lc174, hQ174, l174, y174, z174⟩, st174⟩ := X172.interfaceBack hx (xi := (⟨"java/util/List", "size", "()I"⟩ : MethodName)) (y := (⟨"java/util/ImmutableCollections$List12", "size", "()I"⟩ : MethodName)) hown11 (mvT hZ11 (hw _ (own_m 167 rfl))) (mvT hZ11 (hw _ (own_m 143 rfl))) (mvT hZ11 (hw _ (own_m 144 rfl))) (mvT hZ11 (hw _ (own_m 271 rfl))) (mvT hZ11 (hw _ (own_m 272 rfl))) (mvT hZ11 (hw _ (own_m 273 rfl))) (mvT hZ11 (hw _ (own_m 274 rfl))) (mvT hZ11 (hw _ (own_m 275 rfl))) (by decide) (backOf (W := 0) (rm43_2 l Z a0 hw [] li_151 em tk_4 T151.heap n0 Z170 o151_8 f_175 (Ne.symm ne_em_tk_4_177)) hZ11 (hw _ (own_m 276 rfl)) (hw _ (own_m 244 rfl)) (by decide) (by decide)) q174a q174b q174c (g := (mkF m 112 #[.val (.int p0), .val (.int p1), .val (.int p2), .val (.int p3), .val (.int p4), .val (.int p5), .val (.int (2 : Int32)), .val (.ref tk_1), .val (.ref tk_4), .val (.ref tk_11), .val (.ref b18), .val (.ref ts_151), .val (.ref li_151), .unset, .unset, .unset, .unset, .unset, .unset] [(.ref li_151)])) rfl (by rw [hml]; rfl) (Steps.refl _) (argsL := []) (rest := []) (lenOf own_pd510 rfl) rfl (by show 2 * 0 + _ ≤ _; exact Nat.le_of_eq rfl) (hb hby at_112) (fun _ _ => ⟨rfl, eh172, (by decide : 41 + 0 ≤ _), (by decide : 330 + 0 ≤ _)⟩)
    dsimp only [Pt.U, Pt.locs, Pt.cells, Pt.slots] at X174 l174 y174 z174 st174 hQ174
    subst l174 y174 z174
    obtain ⟨rfl, N174q, eh174⟩ := hQ174
    have N174 := Fr.app N172 N174q
    refine Good.back (fun _ k => st174.trans k) ?_
    refine Good.back (fun _ k => XS.iload X174.here hx rfl (hb hby at_117) rfl k) ?_
    show Good p e below _ (T174.setTop (mkF m 119 #[.val (.int p0), .val (.int p1), .val (.int p2), .val (.int p3), .val (.int p4), .val (.int p5), .val (.int (2 : Int32)), .val (.ref tk_1), .val (.ref tk_4), .val (.ref tk_11), .val (.ref b18), .val (.ref ts_151), .val (.ref li_151), .unset, .unset, .unset, .unset, .unset, .unset] [(.int (2 : Int32)), (.int (2 : Int32))]))
    refine Good.back (fun _ k => XS.icmpYes X174.here hx rfl (pc0 := 119) (pc' := 124) rfl (hb hby at_119) rfl (teq (by decide : ((2 : Int32) = (2 : Int32)))).1 (by decide) (by decide) k) ?_
    show Good p e below _ (T174.setTop (mkF m 124 #[.val (.int p0), .val (.int p1), .val (.int p2), .val (.int p3), .val (.int p4), .val (.int p5), .val (.int (2 : Int32)), .val (.ref tk_1), .val (.ref tk_4), .val (.ref tk_11), .val (.ref b18), .val (.ref ts_151), .val (.ref li_151), .unset, .unset, .unset, .unset, .unset, .unset] []))
    refine Good.back (fun _ k => XS.iload X174.here hx rfl (hb hby at_124) rfl k) ?_
    show Good p e below _ (T174.setTop (mkF m 126 #[.val (.int p0), .val (.int p1), .val (.int p2), .val (.int p3), .val (.int p4), .val (.int p5), .val (.int (2 : Int32)), .val (.ref tk_1), .val (.ref tk_4), .val (.ref tk_11), .val (.ref b18), .val (.ref ts_151), .val (.ref li_151), .unset, .unset, .unset, .unset, .unset, .unset] [(.int (2 : Int32))]))
    refine Good.back (fun _ k => XS.ifNo X174.here hx rfl (hb hby at_126) rfl ((if0 _ _).trans (tlt (by decide : ((0 : Int32) < (2 : Int32)))).2.2.2) k) ?_
    show Good p e below _ (T174.setTop (mkF m 129 #[.val (.int p0), .val (.int p1), .val (.int p2), .val (.int p3), .val (.int p4), .val (.int p5), .val (.int (2 : Int32)), .val (.ref tk_1), .val (.ref tk_4), .val (.ref tk_11), .val (.ref b18), .val (.ref ts_151), .val (.ref li_151), .unset, .unset, .unset, .unset, .unset, .unset] []))
    refine Good.back (fun _ k => XS.aload X174.here hx rfl (hb hby at_129) rfl rfl k) ?_
    refine Good.back (fun _ k => XS.iconst X174.here hx rfl (hb hby at_131) k) ?_
    obtain ⟨cq178, kq178, q178a, q178b, q178c⟩ := isOf hZ11 eh174 o151_6
    obtain ⟨_, _, ⟨T178, L178, k178, n178⟩, -, X178, ⟨Lc178, hQ178, l178, y178, z178⟩, st178⟩ := X174.interfaceBack hx (xi := (⟨"java/util/List", "get", "(I)Ljava/lang/Object;"⟩ : MethodName)) (y := (⟨"java/util/ImmutableCollections$List12", "get", "(I)Ljava/lang/Object;"⟩ : MethodName)) hown11 (mvT hZ11 (hw _ (own_m 277 rfl))) (mvT hZ11 (hw _ (own_m 278 rfl))) (mvT hZ11 (hw _ (own_m 279 rfl))) (mvT hZ11 (hw _ (own_m 280 rfl))) (mvT hZ11 (hw _ (own_m 281 rfl))) (mvT hZ11 (hw _ (own_m 282 rfl))) (mvT hZ11 (hw _ (own_m 283 rfl))) (mvT hZ11 (hw _ (own_m 275 rfl))) (by decide) (backOf (W := 0) (rm44_0 l Z a0 hw [] li_151 tk_1 T151.heap n0 Z170 o151_7) hZ11 (hw _ (own_m 284 rfl)) (hw _ (own_m 244 rfl)) (by decide) (by decide)) q178a q178b q178c (g := (mkF m 132 #[.val (.int p0), .val (.int p1), .val (.int p2), .val (.int p3), .val (.int p4), .val (.int p5), .val (.int (2 : Int32)), .val (.ref tk_1), .val (.ref tk_4), .val (.ref tk_11), .val (.ref b18), .val (.ref ts_151), .val (.ref li_151), .unset, .unset, .unset, .unset, .unset, .unset] [(.int (0 : Int32)), (.ref li_151)])) rfl (by rw [hml]; rfl) (Steps.refl _) (argsL := [(.int (0 : Int32))]) (rest := []) (lenOf own_pd570 rfl) rfl (by show 2 * 0 + _ ≤ _; exact Nat.le_of_eq rfl) (hb hby at_132) (fun _ _ => ⟨rfl, eh174, (by decide : 41 + 0 ≤ _), (by decide : 330 + 0 ≤ _)⟩)
    dsimp only [Pt.U, Pt.locs, Pt.cells, Pt.slots] at X178 l178 y178 z178 st178 hQ178
    subst l178 y178 z178
    obtain ⟨rfl, N178q, eh178⟩ := hQ178
    have N178 := Fr.app N174 N178q
    refine Good.back (fun _ k => st178.trans k) ?_
    refine Good.back (fun _ k => XS.aload X178.here hx rfl (hb hby at_137) rfl rfl k) ?_
    show Good p e below _ (T178.setTop (mkF m 139 #[.val (.int p0), .val (.int p1), .val (.int p2), .val (.int p3), .val (.int p4), .val (.int p5), .val (.int (2 : Int32)), .val (.ref tk_1), .val (.ref tk_4), .val (.ref tk_11), .val (.ref b18), .val (.ref ts_151), .val (.ref li_151), .unset, .unset, .unset, .unset, .unset, .unset] [(.ref tk_1), (.ref tk_1)]))
    refine Good.back (fun _ k => Jvm.RoadKit.acmp (g := (mkF m 139 #[.val (.int p0), .val (.int p1), .val (.int p2), .val (.int p3), .val (.int p4), .val (.int p5), .val (.int (2 : Int32)), .val (.ref tk_1), .val (.ref tk_4), .val (.ref tk_11), .val (.ref b18), .val (.ref ts_151), .val (.ref li_151), .unset, .unset, .unset, .unset, .unset, .unset] [(.ref tk_1), (.ref tk_1)])) X178 hx rfl rfl rfl (pc0 := 139) (pc' := 144) (same := true) rfl (hb hby at_139) rfl (decide_eq_true rfl) (by decide) (by decide) k) ?_
    show Good p e below _ (T178.setTop (mkF m 144 #[.val (.int p0), .val (.int p1), .val (.int p2), .val (.int p3), .val (.int p4), .val (.int p5), .val (.int (2 : Int32)), .val (.ref tk_1), .val (.ref tk_4), .val (.ref tk_11), .val (.ref b18), .val (.ref ts_151), .val (.ref li_151), .unset, .unset, .unset, .unset, .unset, .unset] []))
    refine Good.back (fun _ k => XS.iload X178.here hx rfl (hb hby at_144) rfl k) ?_
    refine Good.back (fun _ k => XS.iconst X178.here hx rfl (hb hby at_146) k) ?_
    show Good p e below _ (T178.setTop (mkF m 147 #[.val (.int p0), .val (.int p1), .val (.int p2), .val (.int p3), .val (.int p4), .val (.int p5), .val (.int (2 : Int32)), .val (.ref tk_1), .val (.ref tk_4), .val (.ref tk_11), .val (.ref b18), .val (.ref ts_151), .val (.ref li_151), .unset, .unset, .unset, .unset, .unset, .unset] [(.int (1 : Int32)), (.int (2 : Int32))]))
    refine Good.back (fun _ k => XS.icmpNo X178.here hx rfl (hb hby at_147) rfl (tlt (by decide : ((1 : Int32) < (2 : Int32)))).2.2.2 k) ?_
    show Good p e below _ (T178.setTop (mkF m 150 #[.val (.int p0), .val (.int p1), .val (.int p2), .val (.int p3), .val (.int p4), .val (.int p5), .val (.int (2 : Int32)), .val (.ref tk_1), .val (.ref tk_4), .val (.ref tk_11), .val (.ref b18), .val (.ref ts_151), .val (.ref li_151), .unset, .unset, .unset, .unset, .unset, .unset] []))
    refine Good.back (fun _ k => XS.aload X178.here hx rfl (hb hby at_150) rfl rfl k) ?_
    refine Good.back (fun _ k => XS.iconst X178.here hx rfl (hb hby at_152) k) ?_
    obtain ⟨cq179, kq179, q179a, q179b, q179c⟩ := isOf hZ11 eh178 o151_6
    obtain ⟨_, _, ⟨T179, L179, k179, n179⟩, -, X179, ⟨Lc179, hQ179, l179, y179, z179⟩, st179⟩ := X178.interfaceBack hx (xi := (⟨"java/util/List", "get", "(I)Ljava/lang/Object;"⟩ : MethodName)) (y := (⟨"java/util/ImmutableCollections$List12", "get", "(I)Ljava/lang/Object;"⟩ : MethodName)) hown11 (mvT hZ11 (hw _ (own_m 277 rfl))) (mvT hZ11 (hw _ (own_m 278 rfl))) (mvT hZ11 (hw _ (own_m 279 rfl))) (mvT hZ11 (hw _ (own_m 280 rfl))) (mvT hZ11 (hw _ (own_m 281 rfl))) (mvT hZ11 (hw _ (own_m 282 rfl))) (mvT hZ11 (hw _ (own_m 283 rfl))) (mvT hZ11 (hw _ (own_m 275 rfl))) (by decide) (backOf (W := 0) (rm44_1 l Z a0 hw [] li_151 em tk_4 T151.heap n0 Z170 o151_8 f_175 (Ne.symm ne_em_tk_4_177)) hZ11 (hw _ (own_m 284 rfl)) (hw _ (own_m 244 rfl)) (by decide) (by decide)) q179a q179b q179c (g := (mkF m 153 #[.val (.int p0), .val (.int p1), .val (.int p2), .val (.int p3), .val (.int p4), .val (.int p5), .val (.int (2 : Int32)), .val (.ref tk_1), .val (.ref tk_4), .val (.ref tk_11), .val (.ref b18), .val (.ref ts_151), .val (.ref li_151), .unset, .unset, .unset, .unset, .unset, .unset] [(.int (1 : Int32)), (.ref li_151)])) rfl (by rw [hml]; rfl) (Steps.refl _) (argsL := [(.int (1 : Int32))]) (rest := []) (lenOf own_pd570 rfl) rfl (by show 2 * 0 + _ ≤ _; exact Nat.le_of_eq rfl) (hb hby at_153) (fun _ _ => ⟨rfl, eh178, (by decide : 41 + 0 ≤ _), (by decide : 330 + 0 ≤ _)⟩)
    dsimp only [Pt.U, Pt.locs, Pt.cells, Pt.slots] at X179 l179 y179 z179 st179 hQ179
    subst l179 y179 z179
    obtain ⟨rfl, N179q, eh179⟩ := hQ179
    have N179 := Fr.app N178 N179q
    refine Good.back (fun _ k => st179.trans k) ?_
    refine Good.back (fun _ k => XS.aload X179.here hx rfl (hb hby at_158) rfl rfl k) ?_
    show Good p e below _ (T179.setTop (mkF m 160 #[.val (.int p0), .val (.int p1), .val (.int p2), .val (.int p3), .val (.int p4), .val (.int p5), .val (.int (2 : Int32)), .val (.ref tk_1), .val (.ref tk_4), .val (.ref tk_11), .val (.ref b18), .val (.ref ts_151), .val (.ref li_151), .unset, .unset, .unset, .unset, .unset, .unset] [(.ref tk_4), (.ref tk_4)]))
    refine Good.back (fun _ k => Jvm.RoadKit.acmp (g := (mkF m 160 #[.val (.int p0), .val (.int p1), .val (.int p2), .val (.int p3), .val (.int p4), .val (.int p5), .val (.int (2 : Int32)), .val (.ref tk_1), .val (.ref tk_4), .val (.ref tk_11), .val (.ref b18), .val (.ref ts_151), .val (.ref li_151), .unset, .unset, .unset, .unset, .unset, .unset] [(.ref tk_4), (.ref tk_4)])) X179 hx rfl rfl rfl (pc0 := 160) (pc' := 165) (same := true) rfl (hb hby at_160) rfl (decide_eq_true rfl) (by decide) (by decide) k) ?_
    show Good p e below _ (T179.setTop (mkF m 165 #[.val (.int p0), .val (.int p1), .val (.int p2), .val (.int p3), .val (.int p4), .val (.int p5), .val (.int (2 : Int32)), .val (.ref tk_1), .val (.ref tk_4), .val (.ref tk_11), .val (.ref b18), .val (.ref ts_151), .val (.ref li_151), .unset, .unset, .unset, .unset, .unset, .unset] []))
    refine Good.back (fun _ k => XS.iload X179.here hx rfl (hb hby at_165) rfl k) ?_
    refine Good.back (fun _ k => XS.iconst X179.here hx rfl (hb hby at_167) k) ?_
    show Good p e below _ (T179.setTop (mkF m 168 #[.val (.int p0), .val (.int p1), .val (.int p2), .val (.int p3), .val (.int p4), .val (.int p5), .val (.int (2 : Int32)), .val (.ref tk_1), .val (.ref tk_4), .val (.ref tk_11), .val (.ref b18), .val (.ref ts_151), .val (.ref li_151), .unset, .unset, .unset, .unset, .unset, .unset] [(.int (2 : Int32)), (.int (2 : Int32))]))
    refine Good.back (fun _ k => XS.icmpYes X179.here hx rfl (pc0 := 168) (pc' := 186) rfl (hb hby at_168) rfl (flt (by decide : ¬ ((2 : Int32) < (2 : Int32)))).2.2.2 (by decide) (by decide) k) ?_
    show Good p e below _ (T179.setTop (mkF m 186 #[.val (.int p0), .val (.int p1), .val (.int p2), .val (.int p3), .val (.int p4), .val (.int p5), .val (.int (2 : Int32)), .val (.ref tk_1), .val (.ref tk_4), .val (.ref tk_11), .val (.ref b18), .val (.ref ts_151), .val (.ref li_151), .unset, .unset, .unset, .unset, .unset, .unset] []))
    exact key186 (2 : Int32) ts_151 li_151 T151.heap _ _ (X179.mono (by decide) (by decide)) N179 eh179 (Z170) (hk171) (o151_1) (o151_2) (o151_3) (o151_4) (by decide)
  · have he41' : (p0 &&& (3 : Int32)) = (3 : Int32) := he41
    rw [he41']
    refine Good.back (fun _ k => XS.iload X25.here hx rfl (hb hby at_34) rfl k) ?_
    show Good p e below _ (T25.setTop (mkF m 36 #[.val (.int p0), .val (.int p1), .val (.int p2), .val (.int p3), .val (.int p4), .val (.int p5), .val (.int (3 : Int32)), .val (.ref tk_1), .val (.ref tk_4), .val (.ref tk_11), .val (.ref b18), .unset, .unset, .unset, .unset, .unset, .unset, .unset, .unset] [(.int (3 : Int32))]))
    refine Good.back (fun _ k => XS.ifNo X25.here hx rfl (hb hby at_36) rfl ((if0 _ _).trans (tlt (by decide : ((0 : Int32) < (3 : Int32)))).2.2.2) k) ?_
    show Good p e below _ (T25.setTop (mkF m 39 #[.val (.int p0), .val (.int p1), .val (.int p2), .val (.int p3), .val (.int p4), .val (.int p5), .val (.int (3 : Int32)), .val (.ref tk_1), .val (.ref tk_4), .val (.ref tk_11), .val (.ref b18), .unset, .unset, .unset, .unset, .unset, .unset, .unset, .unset] []))
    refine Good.back (fun _ k => XS.aload X25.here hx rfl (hb hby at_39) rfl rfl k) ?_
    refine Good.back (fun _ k => XS.aload X25.here hx rfl (hb hby at_41) rfl rfl k) ?_
    have f_181 : Exa Z T25.heap b18 "java/util/ArrayList" := Exa.keep f_21 Kq25
    have f_182 : Exa Z T4.heap tk_1 "com/example/liken/liken/core/Token" := Exa.keep o1_1 Kq4
    have f_183 : Exa Z T11.heap tk_1 "com/example/liken/liken/core/Token" := Exa.keep f_182 Kq11
    have f_184 : Exa Z h18 tk_1 "com/example/liken/liken/core/Token" := Exa.ext E18 f_183
    have f_185 : Exa Z T25.heap tk_1 "com/example/liken/liken/core/Token" := Exa.keep f_184 Kq25
    have f_186 : Sta Z T25.heap "java/util/ArrayList" "DEFAULTCAPACITY_EMPTY_ELEMENTDATA" "[Ljava/lang/Object;" (.ref de) := own_staKeep f_29 Kq25 (allS (own_plainE f_21) all0)
    have f_187 : Arv Z T1.heap de kd (.object "java/lang/Object") (0 : Int32) [] .null := Arv.keep Vd Kq1 nin0
    have f_188 : Arv Z T4.heap de kd (.object "java/lang/Object") (0 : Int32) [] .null := Arv.keep f_187 Kq4 nin0
    have f_189 : Arv Z T11.heap de kd (.object "java/lang/Object") (0 : Int32) [] .null := Arv.keep f_188 Kq11 nin0
    have f_190 : Arv Z h18 de kd (.object "java/lang/Object") (0 : Int32) [] .null := Arv.ext f_189 E18
    have f_192 : Arv Z T1.heap de kd (.object "java/lang/Object") (0 : Int32) [] .null := Arv.keep Vd Kq1 nin0
    have f_193 : Arv Z T4.heap de kd (.object "java/lang/Object") (0 : Int32) [] .null := Arv.keep f_192 Kq4 nin0
    have f_194 : Arv Z T11.heap de kd (.object "java/lang/Object") (0 : Int32) [] .null := Arv.keep f_193 Kq11 nin0
    have ne_de_b18_195 : de ≠ b18 := Nat.ne_of_lt (Nat.lt_of_lt_of_le f_194.lt (Nat.le_of_eq g18.symm))
    have f_191 : Arv Z T25.heap de kd (.object "java/lang/Object") (0 : Int32) [] .null := Arv.keep f_190 Kq25 (ninS ne_de_b18_195 nin0)
    obtain ⟨cq180, kq180, q180a, q180b, q180c⟩ := isOf hZ11 rfl f_181
    obtain ⟨_, _, ⟨T180, L180, k180, n180⟩, -, X180, ⟨Lc180, hQ180, l180, y180, z180⟩, st180⟩ := X25.virtualBack hx (y := (⟨"java/util/ArrayList", "add", "(Ljava/lang/Object;)Z"⟩ : MethodName)) (z := (⟨"java/util/ArrayList", "add", "(Ljava/lang/Object;)Z"⟩ : MethodName)) hown11 (mvT hZ11 (hw _ (own_m 180 rfl))) (mvT hZ11 (hw _ (own_m 181 rfl))) (notFace_of_selects (args := #[]) (mvT hZ11 (hw _ (own_m 183 rfl)))) (mvT hZ11 (hw _ (own_m 183 rfl))) (mvT hZ11 (hw _ (own_m 182 rfl))) (by decide) (backOf (W := 0) (rm29_0 l Z a0 hw [] b18 tk_1 de kd (0 : Int32) T25.heap n0 Z30 f_181 g_b18 f_185 o25_0 o25_1 o25_2 f_186 f_191) hZ11 (hw _ (own_m 184 rfl)) (hw _ (own_m 82 rfl)) (by decide) (by decide)) q180a q180c (g := (mkF m 43 #[.val (.int p0), .val (.int p1), .val (.int p2), .val (.int p3), .val (.int p4), .val (.int p5), .val (.int (3 : Int32)), .val (.ref tk_1), .val (.ref tk_4), .val (.ref tk_11), .val (.ref b18), .unset, .unset, .unset, .unset, .unset, .unset, .unset, .unset] [(.ref tk_1), (.ref b18)])) rfl (by rw [hml]; rfl) (Steps.refl _) (argsL := [(.ref tk_1)]) (rest := []) (lenOf own_pd569 rfl) rfl (by show 2 * 0 + _ ≤ _; exact Nat.le_of_eq rfl) (hb hby at_43) (fun _ _ => ⟨rfl, rfl, (by decide : 37 + 1 ≤ _), (by decide : 312 + 10 ≤ _)⟩)
    dsimp only [Pt.U, Pt.locs, Pt.cells, Pt.slots] at X180 l180 y180 z180 st180 hQ180
    subst l180 y180 z180
    obtain ⟨ar_180, kk_180, rfl, N180q, Kq180, o180_0, o180_1, o180_2, o180_3, o180_4, o180_5, o180_6⟩ := hQ180
    have N180 := Fr.app N25 N180q
    have Z196 : n0 ≤ T180.heap.size := Nat.le_trans Z30 Kq180.1
    have hk197 := Nat.le_trans hk31 Kq180.1
    have g_ar_180 : n0 ≤ ar_180 := Nat.le_trans Z30 o180_0
    refine Good.back (fun _ k => st180.trans k) ?_
    show Good p e below _ (T180.setTop (mkF m 46 #[.val (.int p0), .val (.int p1), .val (.int p2), .val (.int p3), .val (.int p4), .val (.int p5), .val (.int (3 : Int32)), .val (.ref tk_1), .val (.ref tk_4), .val (.ref tk_11), .val (.ref b18), .unset, .unset, .unset, .unset, .unset, .unset, .unset, .unset] [(.int (1 : Int32))]))
    refine Good.back (fun _ k => XS.pop X180.here hx rfl (hb hby at_46) rfl rfl k) ?_
    refine Good.back (fun _ k => XS.iload X180.here hx rfl (hb hby at_47) rfl k) ?_
    refine Good.back (fun _ k => XS.iconst X180.here hx rfl (hb hby at_49) k) ?_
    show Good p e below _ (T180.setTop (mkF m 50 #[.val (.int p0), .val (.int p1), .val (.int p2), .val (.int p3), .val (.int p4), .val (.int p5), .val (.int (3 : Int32)), .val (.ref tk_1), .val (.ref tk_4), .val (.ref tk_11), .val (.ref b18), .unset, .unset, .unset, .unset, .unset, .unset, .unset, .unset] [(.int (1 : Int32)), (.int (3 : Int32))]))
    refine Good.back (fun _ k => XS.icmpNo X180.here hx rfl (hb hby at_50) rfl (tlt (by decide : ((1 : Int32) < (3 : Int32)))).2.2.2 k) ?_
    show Good p e below _ (T180.setTop (mkF m 53 #[.val (.int p0), .val (.int p1), .val (.int p2), .val (.int p3), .val (.int p4), .val (.int p5), .val (.int (3 : Int32)), .val (.ref tk_1), .val (.ref tk_4), .val (.ref tk_11), .val (.ref b18), .unset, .unset, .unset, .unset, .unset, .unset, .unset, .unset] []))
    refine Good.back (fun _ k => XS.aload X180.here hx rfl (hb hby at_53) rfl rfl k) ?_
    refine Good.back (fun _ k => XS.aload X180.here hx rfl (hb hby at_55) rfl rfl k) ?_
    have f_199 : Exa Z T180.heap b18 "java/util/ArrayList" := Exa.keep f_181 Kq180
    have f_200 : Exa Z T11.heap tk_4 "com/example/liken/liken/core/Token" := Exa.keep o4_1 Kq11
    have f_201 : Exa Z h18 tk_4 "com/example/liken/liken/core/Token" := Exa.ext E18 f_200
    have f_202 : Exa Z T25.heap tk_4 "com/example/liken/liken/core/Token" := Exa.keep f_201 Kq25
    have f_203 : Exa Z T180.heap tk_4 "com/example/liken/liken/core/Token" := Exa.keep f_202 Kq180
    have ne_b18_ar_180_204 : b18 ≠ ar_180 := Nat.ne_of_lt (Nat.lt_of_lt_of_le f_181.lt o180_0)
    obtain ⟨cq198, kq198, q198a, q198b, q198c⟩ := isOf hZ11 rfl f_199
    obtain ⟨_, _, ⟨T198, L198, k198, n198⟩, -, X198, ⟨Lc198, hQ198, l198, y198, z198⟩, st198⟩ := X180.virtualBack hx (y := (⟨"java/util/ArrayList", "add", "(Ljava/lang/Object;)Z"⟩ : MethodName)) (z := (⟨"java/util/ArrayList", "add", "(Ljava/lang/Object;)Z"⟩ : MethodName)) hown11 (mvT hZ11 (hw _ (own_m 180 rfl))) (mvT hZ11 (hw _ (own_m 181 rfl))) (notFace_of_selects (args := #[]) (mvT hZ11 (hw _ (own_m 183 rfl)))) (mvT hZ11 (hw _ (own_m 183 rfl))) (mvT hZ11 (hw _ (own_m 182 rfl))) (by decide) (backOf (W := 0) (rm29_1 l Z a0 hw [] b18 tk_4 ar_180 kk_180 ((0 : Int32) + (1 : Int32)) tk_1 T180.heap n0 Z196 f_199 g_b18 f_203 o180_4 o180_2 (by first | assumption | decide) g_ar_180 ne_b18_ar_180_204 o180_5 o180_6) hZ11 (hw _ (own_m 184 rfl)) (hw _ (own_m 82 rfl)) (by decide) (by decide)) q198a q198c (g := (mkF m 57 #[.val (.int p0), .val (.int p1), .val (.int p2), .val (.int p3), .val (.int p4), .val (.int p5), .val (.int (3 : Int32)), .val (.ref tk_1), .val (.ref tk_4), .val (.ref tk_11), .val (.ref b18), .unset, .unset, .unset, .unset, .unset, .unset, .unset, .unset] [(.ref tk_4), (.ref b18)])) rfl (by rw [hml]; rfl) (Steps.refl _) (argsL := [(.ref tk_4)]) (rest := []) (lenOf own_pd569 rfl) rfl (by show 2 * 0 + _ ≤ _; exact Nat.le_of_eq rfl) (hb hby at_57) (fun _ _ => ⟨rfl, rfl, (by decide : 38 + 0 ≤ _), (by decide : 322 + 0 ≤ _)⟩)
    dsimp only [Pt.U, Pt.locs, Pt.cells, Pt.slots] at X198 l198 y198 z198 st198 hQ198
    subst l198 y198 z198
    obtain ⟨rfl, N198q, Kq198, o198_0, o198_1, o198_2, o198_3⟩ := hQ198
    have N198 := Fr.app N180 N198q
    have Z205 : n0 ≤ T198.heap.size := Nat.le_trans Z196 Kq198.1
    have hk206 := Nat.le_trans hk197 Kq198.1
    refine Good.back (fun _ k => st198.trans k) ?_
    show Good p e below _ (T198.setTop (mkF m 60 #[.val (.int p0), .val (.int p1), .val (.int p2), .val (.int p3), .val (.int p4), .val (.int p5), .val (.int (3 : Int32)), .val (.ref tk_1), .val (.ref tk_4), .val (.ref tk_11), .val (.ref b18), .unset, .unset, .unset, .unset, .unset, .unset, .unset, .unset] [(.int (1 : Int32))]))
    refine Good.back (fun _ k => XS.pop X198.here hx rfl (hb hby at_60) rfl rfl k) ?_
    refine Good.back (fun _ k => XS.iload X198.here hx rfl (hb hby at_61) rfl k) ?_
    refine Good.back (fun _ k => XS.iconst X198.here hx rfl (hb hby at_63) k) ?_
    show Good p e below _ (T198.setTop (mkF m 64 #[.val (.int p0), .val (.int p1), .val (.int p2), .val (.int p3), .val (.int p4), .val (.int p5), .val (.int (3 : Int32)), .val (.ref tk_1), .val (.ref tk_4), .val (.ref tk_11), .val (.ref b18), .unset, .unset, .unset, .unset, .unset, .unset, .unset, .unset] [(.int (2 : Int32)), (.int (3 : Int32))]))
    refine Good.back (fun _ k => XS.icmpNo X198.here hx rfl (hb hby at_64) rfl (tlt (by decide : ((2 : Int32) < (3 : Int32)))).2.2.2 k) ?_
    show Good p e below _ (T198.setTop (mkF m 67 #[.val (.int p0), .val (.int p1), .val (.int p2), .val (.int p3), .val (.int p4), .val (.int p5), .val (.int (3 : Int32)), .val (.ref tk_1), .val (.ref tk_4), .val (.ref tk_11), .val (.ref b18), .unset, .unset, .unset, .unset, .unset, .unset, .unset, .unset] []))
    refine Good.back (fun _ k => XS.aload X198.here hx rfl (hb hby at_67) rfl rfl k) ?_
    refine Good.back (fun _ k => XS.aload X198.here hx rfl (hb hby at_69) rfl rfl k) ?_
    have f_208 : Exa Z T198.heap b18 "java/util/ArrayList" := Exa.keep f_199 Kq198
    have f_209 : Exa Z h18 tk_11 "com/example/liken/liken/core/Token" := Exa.ext E18 o11_1
    have f_210 : Exa Z T25.heap tk_11 "com/example/liken/liken/core/Token" := Exa.keep f_209 Kq25
    have f_211 : Exa Z T180.heap tk_11 "com/example/liken/liken/core/Token" := Exa.keep f_210 Kq180
    have f_212 : Exa Z T198.heap tk_11 "com/example/liken/liken/core/Token" := Exa.keep f_211 Kq198
    obtain ⟨cq207, kq207, q207a, q207b, q207c⟩ := isOf hZ11 rfl f_208
    obtain ⟨_, _, ⟨T207, L207, k207, n207⟩, -, X207, ⟨Lc207, hQ207, l207, y207, z207⟩, st207⟩ := X198.virtualBack hx (y := (⟨"java/util/ArrayList", "add", "(Ljava/lang/Object;)Z"⟩ : MethodName)) (z := (⟨"java/util/ArrayList", "add", "(Ljava/lang/Object;)Z"⟩ : MethodName)) hown11 (mvT hZ11 (hw _ (own_m 180 rfl))) (mvT hZ11 (hw _ (own_m 181 rfl))) (notFace_of_selects (args := #[]) (mvT hZ11 (hw _ (own_m 183 rfl)))) (mvT hZ11 (hw _ (own_m 183 rfl))) (mvT hZ11 (hw _ (own_m 182 rfl))) (by decide) (backOf (W := 0) (rm29_2 l Z a0 hw [] b18 tk_11 ar_180 kk_180 (((0 : Int32) + (1 : Int32)) + (1 : Int32)) tk_1 tk_4 T198.heap n0 Z205 f_208 g_b18 f_212 o198_1 o198_0 (by first | assumption | decide) g_ar_180 ne_b18_ar_180_204 o198_2 o198_3) hZ11 (hw _ (own_m 184 rfl)) (hw _ (own_m 82 rfl)) (by decide) (by decide)) q207a q207c (g := (mkF m 71 #[.val (.int p0), .val (.int p1), .val (.int p2), .val (.int p3), .val (.int p4), .val (.int p5), .val (.int (3 : Int32)), .val (.ref tk_1), .val (.ref tk_4), .val (.ref tk_11), .val (.ref b18), .unset, .unset, .unset, .unset, .unset, .unset, .unset, .unset] [(.ref tk_11), (.ref b18)])) rfl (by rw [hml]; rfl) (Steps.refl _) (argsL := [(.ref tk_11)]) (rest := []) (lenOf own_pd569 rfl) rfl (by show 2 * 0 + _ ≤ _; exact Nat.le_of_eq rfl) (hb hby at_71) (fun _ _ => ⟨rfl, rfl, (by decide : 38 + 0 ≤ _), (by decide : 322 + 0 ≤ _)⟩)
    dsimp only [Pt.U, Pt.locs, Pt.cells, Pt.slots] at X207 l207 y207 z207 st207 hQ207
    subst l207 y207 z207
    obtain ⟨rfl, N207q, Kq207, o207_0, o207_1, o207_2, o207_3⟩ := hQ207
    have N207 := Fr.app N198 N207q
    have Z213 : n0 ≤ T207.heap.size := Nat.le_trans Z205 Kq207.1
    have hk214 := Nat.le_trans hk206 Kq207.1
    refine Good.back (fun _ k => st207.trans k) ?_
    show Good p e below _ (T207.setTop (mkF m 74 #[.val (.int p0), .val (.int p1), .val (.int p2), .val (.int p3), .val (.int p4), .val (.int p5), .val (.int (3 : Int32)), .val (.ref tk_1), .val (.ref tk_4), .val (.ref tk_11), .val (.ref b18), .unset, .unset, .unset, .unset, .unset, .unset, .unset, .unset] [(.int (1 : Int32))]))
    refine Good.back (fun _ k => XS.pop X207.here hx rfl (hb hby at_74) rfl rfl k) ?_
    refine Good.back (fun _ k => XS.aload X207.here hx rfl (hb hby at_75) rfl rfl k) ?_
    have f_216 : Exa Z T207.heap b18 "java/util/ArrayList" := Exa.keep f_208 Kq207
    obtain ⟨_, _, ⟨T215, L215, k215, n215⟩, -, X215, ⟨Lc215, hQ215, l215, y215, z215⟩, st215⟩ := Jvm.LawKit.callS X207 hx (y := (⟨"com/example/liken/liken/core/TokenSlice", "held", "(Ljava/util/List;)Ljava/util/List;"⟩ : MethodName)) hown11 (mvT hZ11 (hw _ (own_m 104 rfl))) (mvT hZ11 (hw _ (own_m 105 rfl))) (mvT hZ11 (hw _ (own_m 106 rfl))) (mvT hZ11 (hw _ (own_m 107 rfl))) (by decide) (backOf (W := 0) (rm18A l Z a0 hw [] b18  T207.heap n0 Z213 f_216) hZ11 (hw _ (own_m 107 rfl)) (hw _ (own_m 106 rfl)) (by decide) (by decide)) (g := (mkF m 77 #[.val (.int p0), .val (.int p1), .val (.int p2), .val (.int p3), .val (.int p4), .val (.int p5), .val (.int (3 : Int32)), .val (.ref tk_1), .val (.ref tk_4), .val (.ref tk_11), .val (.ref b18), .unset, .unset, .unset, .unset, .unset, .unset, .unset, .unset] [(.ref b18)])) rfl (by rw [hml]; rfl) (argsL := [(.ref b18)]) (rest := []) (lenOf own_pd567 rfl) rfl (by show 2 * 0 + _ ≤ _; exact Nat.le_of_eq rfl) (hb hby at_77) (fun _ _ => ⟨rfl, rfl, (by decide : 38 + 0 ≤ _), (by decide : 322 + 0 ≤ _)⟩)
    dsimp only [Pt.U, Pt.locs, Pt.cells, Pt.slots] at X215 l215 y215 z215 st215 hQ215
    subst l215 y215 z215
    obtain ⟨rfl, N215q, eh215⟩ := hQ215
    have N215 := Fr.app N207 N215q
    refine Good.back st215 ?_
    refine Good.back (fun _ k => XS.aload X215.here hx rfl (hb hby at_80) rfl rfl k) ?_
    show Good p e below _ (T215.setTop (mkF m 82 #[.val (.int p0), .val (.int p1), .val (.int p2), .val (.int p3), .val (.int p4), .val (.int p5), .val (.int (3 : Int32)), .val (.ref tk_1), .val (.ref tk_4), .val (.ref tk_11), .val (.ref b18), .unset, .unset, .unset, .unset, .unset, .unset, .unset, .unset] [(.ref b18), (.ref b18)]))
    refine Good.back (fun _ k => Jvm.RoadKit.acmp (g := (mkF m 82 #[.val (.int p0), .val (.int p1), .val (.int p2), .val (.int p3), .val (.int p4), .val (.int p5), .val (.int (3 : Int32)), .val (.ref tk_1), .val (.ref tk_4), .val (.ref tk_11), .val (.ref b18), .unset, .unset, .unset, .unset, .unset, .unset, .unset, .unset] [(.ref b18), (.ref b18)])) X215 hx rfl rfl rfl (pc0 := 82) (pc' := 87) (same := true) rfl (hb hby at_82) rfl (decide_eq_true rfl) (by decide) (by decide) k) ?_
    show Good p e below _ (T215.setTop (mkF m 87 #[.val (.int p0), .val (.int p1), .val (.int p2), .val (.int p3), .val (.int p4), .val (.int p5), .val (.int (3 : Int32)), .val (.ref tk_1), .val (.ref tk_4), .val (.ref tk_11), .val (.ref b18), .unset, .unset, .unset, .unset, .unset, .unset, .unset, .unset] []))
    refine Good.back (fun _ k => XS.aload X215.here hx rfl (hb hby at_87) rfl rfl k) ?_
    have f_218 : Exa Z T198.heap ar_180 "[Ljava/lang/Object;" := Exa.keep o180_1 Kq198
    have f_219 : Exa Z T207.heap ar_180 "[Ljava/lang/Object;" := Exa.keep f_218 Kq207
    have f_220 : Exa Z T180.heap tk_1 "com/example/liken/liken/core/Token" := Exa.keep f_185 Kq180
    have f_221 : Exa Z T198.heap tk_1 "com/example/liken/liken/core/Token" := Exa.keep f_220 Kq198
    have f_222 : Exa Z T207.heap tk_1 "com/example/liken/liken/core/Token" := Exa.keep f_221 Kq207
    have f_223 : Exa Z T198.heap tk_4 "com/example/liken/liken/core/Token" := Exa.keep f_203 Kq198
    have f_224 : Exa Z T207.heap tk_4 "com/example/liken/liken/core/Token" := Exa.keep f_223 Kq207
    have f_225 : Exa Z T207.heap tk_11 "com/example/liken/liken/core/Token" := Exa.keep f_212 Kq207
    obtain ⟨_, _, ⟨T217, L217, k217, n217⟩, -, X217, ⟨Lc217, hQ217, l217, y217, z217⟩, st217⟩ := Jvm.LawKit.callS X215 hx (y := (⟨"com/example/liken/liken/core/TokenSlice", "of", "(Ljava/util/List;)Lcom/example/liken/liken/core/TokenSlice;"⟩ : MethodName)) hown11 (mvT hZ11 (hw _ (own_m 113 rfl))) (mvT hZ11 (hw _ (own_m 114 rfl))) (mvT hZ11 (hw _ (own_m 106 rfl))) (mvT hZ11 (hw _ (own_m 115 rfl))) (by decide) (backOf (W := 0) (rm19_3 l Z a0 hw [] b18 ar_180 kk_180 mr tk_1 tk_4 tk_11 T207.heap n0 Z213 f_216 o207_1 o207_2 f_219 o207_0 (by first | assumption | decide) f_222 f_224 f_225) hZ11 (hw _ (own_m 115 rfl)) (hw _ (own_m 106 rfl)) (by decide) (by decide)) (g := (mkF m 89 #[.val (.int p0), .val (.int p1), .val (.int p2), .val (.int p3), .val (.int p4), .val (.int p5), .val (.int (3 : Int32)), .val (.ref tk_1), .val (.ref tk_4), .val (.ref tk_11), .val (.ref b18), .unset, .unset, .unset, .unset, .unset, .unset, .unset, .unset] [(.ref b18)])) rfl (by rw [hml]; rfl) (argsL := [(.ref b18)]) (rest := []) (lenOf own_pd568 rfl) rfl (by show 2 * 0 + _ ≤ _; exact Nat.le_of_eq rfl) (hb hby at_89) (fun _ _ => ⟨rfl, eh215, (by decide : 38 + 4 ≤ _), (by decide : 322 + 12 ≤ _)⟩)
    dsimp only [Pt.U, Pt.locs, Pt.cells, Pt.slots] at X217 l217 y217 z217 st217 hQ217
    subst l217 y217 z217
    obtain ⟨ts_217, li_217, ea_217, ke_217, rfl, N217q, Kq217, o217_0, o217_1, o217_2, o217_3, o217_4, o217_5, o217_6, o217_7, o217_8, o217_9⟩ := hQ217
    have N217 := Fr.app N215 N217q
    have Z226 : n0 ≤ T217.heap.size := Nat.le_trans Z213 Kq217.1
    have hk227 := Nat.le_trans hk214 Kq217.1
    have g_ts_217 : n0 ≤ ts_217 := Nat.le_trans Z213 o217_0
    have g_li_217 : n0 ≤ li_217 := Nat.le_trans Z213 o217_5
    have g_ea_217 : n0 ≤ ea_217 := Nat.le_trans Z213 o217_6
    refine Good.back st217 ?_
    show Good p e below _ (T217.setTop (mkF m 92 #[.val (.int p0), .val (.int p1), .val (.int p2), .val (.int p3), .val (.int p4), .val (.int p5), .val (.int (3 : Int32)), .val (.ref tk_1), .val (.ref tk_4), .val (.ref tk_11), .val (.ref b18), .unset, .unset, .unset, .unset, .unset, .unset, .unset, .unset] [(.ref ts_217)]))
    refine Good.back (fun _ k => XS.astore X217.here hx rfl (hb hby at_92) rfl rfl (l' := #[.val (.int p0), .val (.int p1), .val (.int p2), .val (.int p3), .val (.int p4), .val (.int p5), .val (.int (3 : Int32)), .val (.ref tk_1), .val (.ref tk_4), .val (.ref tk_11), .val (.ref b18), .val (.ref ts_217), .unset, .unset, .unset, .unset, .unset, .unset, .unset]) rfl k) ?_
    refine Good.back (fun _ k => XS.aload X217.here hx rfl (hb hby at_94) rfl rfl k) ?_
    obtain ⟨_, _, ⟨T228, L228, k228, n228⟩, -, X228, ⟨Lc228, hQ228, l228, y228, z228⟩, st228⟩ := Jvm.LawKit.callS X217 hx (y := (⟨"com/example/liken/liken/core/TokenSlice", "held", "(Ljava/util/List;)Ljava/util/List;"⟩ : MethodName)) hown11 (mvT hZ11 (hw _ (own_m 104 rfl))) (mvT hZ11 (hw _ (own_m 105 rfl))) (mvT hZ11 (hw _ (own_m 106 rfl))) (mvT hZ11 (hw _ (own_m 107 rfl))) (by decide) (backOf (W := 0) (rm18T l Z a0 hw [] ts_217 li_217 T217.heap n0 Z226 o217_1 o217_2) hZ11 (hw _ (own_m 107 rfl)) (hw _ (own_m 106 rfl)) (by decide) (by decide)) (g := (mkF m 96 #[.val (.int p0), .val (.int p1), .val (.int p2), .val (.int p3), .val (.int p4), .val (.int p5), .val (.int (3 : Int32)), .val (.ref tk_1), .val (.ref tk_4), .val (.ref tk_11), .val (.ref b18), .val (.ref ts_217), .unset, .unset, .unset, .unset, .unset, .unset, .unset] [(.ref ts_217)])) rfl (by rw [hml]; rfl) (argsL := [(.ref ts_217)]) (rest := []) (lenOf own_pd567 rfl) rfl (by show 2 * 0 + _ ≤ _; exact Nat.le_of_eq rfl) (hb hby at_96) (fun _ _ => ⟨rfl, rfl, (by decide : 42 + 0 ≤ _), (by decide : 334 + 0 ≤ _)⟩)
    dsimp only [Pt.U, Pt.locs, Pt.cells, Pt.slots] at X228 l228 y228 z228 st228 hQ228
    subst l228 y228 z228
    obtain ⟨rfl, N228q, eh228⟩ := hQ228
    have N228 := Fr.app N217 N228q
    refine Good.back st228 ?_
    show Good p e below _ (T228.setTop (mkF m 99 #[.val (.int p0), .val (.int p1), .val (.int p2), .val (.int p3), .val (.int p4), .val (.int p5), .val (.int (3 : Int32)), .val (.ref tk_1), .val (.ref tk_4), .val (.ref tk_11), .val (.ref b18), .val (.ref ts_217), .unset, .unset, .unset, .unset, .unset, .unset, .unset] [(.ref li_217)]))
    refine Good.back (fun _ k => XS.astore X228.here hx rfl (hb hby at_99) rfl rfl (l' := #[.val (.int p0), .val (.int p1), .val (.int p2), .val (.int p3), .val (.int p4), .val (.int p5), .val (.int (3 : Int32)), .val (.ref tk_1), .val (.ref tk_4), .val (.ref tk_11), .val (.ref b18), .val (.ref ts_217), .val (.ref li_217), .unset, .unset, .unset, .unset, .unset, .unset]) rfl k) ?_
    refine Good.back (fun _ k => XS.aload X228.here hx rfl (hb hby at_101) rfl rfl k) ?_
    refine Good.back (fun _ k => XS.aload X228.here hx rfl (hb hby at_103) rfl rfl k) ?_
    show Good p e below _ (T228.setTop (mkF m 105 #[.val (.int p0), .val (.int p1), .val (.int p2), .val (.int p3), .val (.int p4), .val (.int p5), .val (.int (3 : Int32)), .val (.ref tk_1), .val (.ref tk_4), .val (.ref tk_11), .val (.ref b18), .val (.ref ts_217), .val (.ref li_217), .unset, .unset, .unset, .unset, .unset, .unset] [(.ref ts_217), (.ref li_217)]))
    have ne_li_217_ts_217_229 : li_217 ≠ ts_217 := Exa.ne o217_7 o217_1 (by decide)
    refine Good.back (fun _ k => Jvm.RoadKit.acmp (g := (mkF m 105 #[.val (.int p0), .val (.int p1), .val (.int p2), .val (.int p3), .val (.int p4), .val (.int p5), .val (.int (3 : Int32)), .val (.ref tk_1), .val (.ref tk_4), .val (.ref tk_11), .val (.ref b18), .val (.ref ts_217), .val (.ref li_217), .unset, .unset, .unset, .unset, .unset, .unset] [(.ref ts_217), (.ref li_217)])) X228 hx rfl rfl rfl (pc0 := 105) (pc' := 110) (same := false) rfl (hb hby at_105) rfl (decide_eq_false fun q => ne_li_217_ts_217_229 (Value.ref.inj q)) (by decide) (by decide) k) ?_
    show Good p e below _ (T228.setTop (mkF m 110 #[.val (.int p0), .val (.int p1), .val (.int p2), .val (.int p3), .val (.int p4), .val (.int p5), .val (.int (3 : Int32)), .val (.ref tk_1), .val (.ref tk_4), .val (.ref tk_11), .val (.ref b18), .val (.ref ts_217), .val (.ref li_217), .unset, .unset, .unset, .unset, .unset, .unset] []))
    refine Good.back (fun _ k => XS.aload X228.here hx rfl (hb hby at_110) rfl rfl k) ?_
    obtain ⟨cq230, kq230, q230a, q230b, q230c⟩ := isOf hZ11 eh228 o217_7
    obtain ⟨_, _, ⟨T230, L230, k230, n230⟩, -, X230, ⟨Lc230, hQ230, l230, y230, z230⟩, st230⟩ := X228.interfaceBack hx (xi := (⟨"java/util/List", "size", "()I"⟩ : MethodName)) (y := (⟨"java/util/ImmutableCollections$ListN", "size", "()I"⟩ : MethodName)) hown11 (mvT hZ11 (hw _ (own_m 167 rfl))) (mvT hZ11 (hw _ (own_m 143 rfl))) (mvT hZ11 (hw _ (own_m 144 rfl))) (mvT hZ11 (hw _ (own_m 145 rfl))) (mvT hZ11 (hw _ (own_m 146 rfl))) (mvT hZ11 (hw _ (own_m 147 rfl))) (mvT hZ11 (hw _ (own_m 148 rfl))) (mvT hZ11 (hw _ (own_m 149 rfl))) (by decide) (backOf (W := 0) (rm24_3 l Z a0 hw [] li_217 ea_217 ke_217 tk_1 tk_4 tk_11 T217.heap n0 Z226 o217_8 o217_9) hZ11 (hw _ (own_m 151 rfl)) (hw _ (own_m 150 rfl)) (by decide) (by decide)) q230a q230b q230c (g := (mkF m 112 #[.val (.int p0), .val (.int p1), .val (.int p2), .val (.int p3), .val (.int p4), .val (.int p5), .val (.int (3 : Int32)), .val (.ref tk_1), .val (.ref tk_4), .val (.ref tk_11), .val (.ref b18), .val (.ref ts_217), .val (.ref li_217), .unset, .unset, .unset, .unset, .unset, .unset] [(.ref li_217)])) rfl (by rw [hml]; rfl) (Steps.refl _) (argsL := []) (rest := []) (lenOf own_pd510 rfl) rfl (by show 2 * 0 + _ ≤ _; exact Nat.le_of_eq rfl) (hb hby at_112) (fun _ _ => ⟨rfl, eh228, (by decide : 42 + 0 ≤ _), (by decide : 334 + 0 ≤ _)⟩)
    dsimp only [Pt.U, Pt.locs, Pt.cells, Pt.slots] at X230 l230 y230 z230 st230 hQ230
    subst l230 y230 z230
    obtain ⟨rfl, N230q, eh230⟩ := hQ230
    have N230 := Fr.app N228 N230q
    refine Good.back (fun _ k => st230.trans k) ?_
    refine Good.back (fun _ k => XS.iload X230.here hx rfl (hb hby at_117) rfl k) ?_
    show Good p e below _ (T230.setTop (mkF m 119 #[.val (.int p0), .val (.int p1), .val (.int p2), .val (.int p3), .val (.int p4), .val (.int p5), .val (.int (3 : Int32)), .val (.ref tk_1), .val (.ref tk_4), .val (.ref tk_11), .val (.ref b18), .val (.ref ts_217), .val (.ref li_217), .unset, .unset, .unset, .unset, .unset, .unset] [(.int (3 : Int32)), (.int (3 : Int32))]))
    refine Good.back (fun _ k => XS.icmpYes X230.here hx rfl (pc0 := 119) (pc' := 124) rfl (hb hby at_119) rfl (teq (by decide : ((3 : Int32) = (3 : Int32)))).1 (by decide) (by decide) k) ?_
    show Good p e below _ (T230.setTop (mkF m 124 #[.val (.int p0), .val (.int p1), .val (.int p2), .val (.int p3), .val (.int p4), .val (.int p5), .val (.int (3 : Int32)), .val (.ref tk_1), .val (.ref tk_4), .val (.ref tk_11), .val (.ref b18), .val (.ref ts_217), .val (.ref li_217), .unset, .unset, .unset, .unset, .unset, .unset] []))
    refine Good.back (fun _ k => XS.iload X230.here hx rfl (hb hby at_124) rfl k) ?_
    show Good p e below _ (T230.setTop (mkF m 126 #[.val (.int p0), .val (.int p1), .val (.int p2), .val (.int p3), .val (.int p4), .val (.int p5), .val (.int (3 : Int32)), .val (.ref tk_1), .val (.ref tk_4), .val (.ref tk_11), .val (.ref b18), .val (.ref ts_217), .val (.ref li_217), .unset, .unset, .unset, .unset, .unset, .unset] [(.int (3 : Int32))]))
    refine Good.back (fun _ k => XS.ifNo X230.here hx rfl (hb hby at_126) rfl ((if0 _ _).trans (tlt (by decide : ((0 : Int32) < (3 : Int32)))).2.2.2) k) ?_
    show Good p e below _ (T230.setTop (mkF m 129 #[.val (.int p0), .val (.int p1), .val (.int p2), .val (.int p3), .val (.int p4), .val (.int p5), .val (.int (3 : Int32)), .val (.ref tk_1), .val (.ref tk_4), .val (.ref tk_11), .val (.ref b18), .val (.ref ts_217), .val (.ref li_217), .unset, .unset, .unset, .unset, .unset, .unset] []))
    refine Good.back (fun _ k => XS.aload X230.here hx rfl (hb hby at_129) rfl rfl k) ?_
    refine Good.back (fun _ k => XS.iconst X230.here hx rfl (hb hby at_131) k) ?_
    obtain ⟨cq231, kq231, q231a, q231b, q231c⟩ := isOf hZ11 eh230 o217_7
    obtain ⟨_, _, ⟨T231, L231, k231, n231⟩, -, X231, ⟨Lc231, hQ231, l231, y231, z231⟩, st231⟩ := X230.interfaceBack hx (xi := (⟨"java/util/List", "get", "(I)Ljava/lang/Object;"⟩ : MethodName)) (y := (⟨"java/util/ImmutableCollections$ListN", "get", "(I)Ljava/lang/Object;"⟩ : MethodName)) hown11 (mvT hZ11 (hw _ (own_m 277 rfl))) (mvT hZ11 (hw _ (own_m 278 rfl))) (mvT hZ11 (hw _ (own_m 279 rfl))) (mvT hZ11 (hw _ (own_m 301 rfl))) (mvT hZ11 (hw _ (own_m 302 rfl))) (mvT hZ11 (hw _ (own_m 303 rfl))) (mvT hZ11 (hw _ (own_m 304 rfl))) (mvT hZ11 (hw _ (own_m 149 rfl))) (by decide) (backOf (W := 0) (rm47_0 l Z a0 hw [] li_217 ea_217 ke_217 tk_1 tk_4 tk_11 T217.heap n0 Z226 o217_8 o217_9) hZ11 (hw _ (own_m 305 rfl)) (hw _ (own_m 150 rfl)) (by decide) (by decide)) q231a q231b q231c (g := (mkF m 132 #[.val (.int p0), .val (.int p1), .val (.int p2), .val (.int p3), .val (.int p4), .val (.int p5), .val (.int (3 : Int32)), .val (.ref tk_1), .val (.ref tk_4), .val (.ref tk_11), .val (.ref b18), .val (.ref ts_217), .val (.ref li_217), .unset, .unset, .unset, .unset, .unset, .unset] [(.int (0 : Int32)), (.ref li_217)])) rfl (by rw [hml]; rfl) (Steps.refl _) (argsL := [(.int (0 : Int32))]) (rest := []) (lenOf own_pd570 rfl) rfl (by show 2 * 0 + _ ≤ _; exact Nat.le_of_eq rfl) (hb hby at_132) (fun _ _ => ⟨rfl, eh230, (by decide : 42 + 0 ≤ _), (by decide : 334 + 0 ≤ _)⟩)
    dsimp only [Pt.U, Pt.locs, Pt.cells, Pt.slots] at X231 l231 y231 z231 st231 hQ231
    subst l231 y231 z231
    obtain ⟨rfl, N231q, eh231⟩ := hQ231
    have N231 := Fr.app N230 N231q
    refine Good.back (fun _ k => st231.trans k) ?_
    refine Good.back (fun _ k => XS.aload X231.here hx rfl (hb hby at_137) rfl rfl k) ?_
    show Good p e below _ (T231.setTop (mkF m 139 #[.val (.int p0), .val (.int p1), .val (.int p2), .val (.int p3), .val (.int p4), .val (.int p5), .val (.int (3 : Int32)), .val (.ref tk_1), .val (.ref tk_4), .val (.ref tk_11), .val (.ref b18), .val (.ref ts_217), .val (.ref li_217), .unset, .unset, .unset, .unset, .unset, .unset] [(.ref tk_1), (.ref tk_1)]))
    refine Good.back (fun _ k => Jvm.RoadKit.acmp (g := (mkF m 139 #[.val (.int p0), .val (.int p1), .val (.int p2), .val (.int p3), .val (.int p4), .val (.int p5), .val (.int (3 : Int32)), .val (.ref tk_1), .val (.ref tk_4), .val (.ref tk_11), .val (.ref b18), .val (.ref ts_217), .val (.ref li_217), .unset, .unset, .unset, .unset, .unset, .unset] [(.ref tk_1), (.ref tk_1)])) X231 hx rfl rfl rfl (pc0 := 139) (pc' := 144) (same := true) rfl (hb hby at_139) rfl (decide_eq_true rfl) (by decide) (by decide) k) ?_
    show Good p e below _ (T231.setTop (mkF m 144 #[.val (.int p0), .val (.int p1), .val (.int p2), .val (.int p3), .val (.int p4), .val (.int p5), .val (.int (3 : Int32)), .val (.ref tk_1), .val (.ref tk_4), .val (.ref tk_11), .val (.ref b18), .val (.ref ts_217), .val (.ref li_217), .unset, .unset, .unset, .unset, .unset, .unset] []))
    refine Good.back (fun _ k => XS.iload X231.here hx rfl (hb hby at_144) rfl k) ?_
    refine Good.back (fun _ k => XS.iconst X231.here hx rfl (hb hby at_146) k) ?_
    show Good p e below _ (T231.setTop (mkF m 147 #[.val (.int p0), .val (.int p1), .val (.int p2), .val (.int p3), .val (.int p4), .val (.int p5), .val (.int (3 : Int32)), .val (.ref tk_1), .val (.ref tk_4), .val (.ref tk_11), .val (.ref b18), .val (.ref ts_217), .val (.ref li_217), .unset, .unset, .unset, .unset, .unset, .unset] [(.int (1 : Int32)), (.int (3 : Int32))]))
    refine Good.back (fun _ k => XS.icmpNo X231.here hx rfl (hb hby at_147) rfl (tlt (by decide : ((1 : Int32) < (3 : Int32)))).2.2.2 k) ?_
    show Good p e below _ (T231.setTop (mkF m 150 #[.val (.int p0), .val (.int p1), .val (.int p2), .val (.int p3), .val (.int p4), .val (.int p5), .val (.int (3 : Int32)), .val (.ref tk_1), .val (.ref tk_4), .val (.ref tk_11), .val (.ref b18), .val (.ref ts_217), .val (.ref li_217), .unset, .unset, .unset, .unset, .unset, .unset] []))
    refine Good.back (fun _ k => XS.aload X231.here hx rfl (hb hby at_150) rfl rfl k) ?_
    refine Good.back (fun _ k => XS.iconst X231.here hx rfl (hb hby at_152) k) ?_
    obtain ⟨cq232, kq232, q232a, q232b, q232c⟩ := isOf hZ11 eh231 o217_7
    obtain ⟨_, _, ⟨T232, L232, k232, n232⟩, -, X232, ⟨Lc232, hQ232, l232, y232, z232⟩, st232⟩ := X231.interfaceBack hx (xi := (⟨"java/util/List", "get", "(I)Ljava/lang/Object;"⟩ : MethodName)) (y := (⟨"java/util/ImmutableCollections$ListN", "get", "(I)Ljava/lang/Object;"⟩ : MethodName)) hown11 (mvT hZ11 (hw _ (own_m 277 rfl))) (mvT hZ11 (hw _ (own_m 278 rfl))) (mvT hZ11 (hw _ (own_m 279 rfl))) (mvT hZ11 (hw _ (own_m 301 rfl))) (mvT hZ11 (hw _ (own_m 302 rfl))) (mvT hZ11 (hw _ (own_m 303 rfl))) (mvT hZ11 (hw _ (own_m 304 rfl))) (mvT hZ11 (hw _ (own_m 149 rfl))) (by decide) (backOf (W := 0) (rm47_1 l Z a0 hw [] li_217 ea_217 ke_217 tk_1 tk_4 tk_11 T217.heap n0 Z226 o217_8 o217_9) hZ11 (hw _ (own_m 305 rfl)) (hw _ (own_m 150 rfl)) (by decide) (by decide)) q232a q232b q232c (g := (mkF m 153 #[.val (.int p0), .val (.int p1), .val (.int p2), .val (.int p3), .val (.int p4), .val (.int p5), .val (.int (3 : Int32)), .val (.ref tk_1), .val (.ref tk_4), .val (.ref tk_11), .val (.ref b18), .val (.ref ts_217), .val (.ref li_217), .unset, .unset, .unset, .unset, .unset, .unset] [(.int (1 : Int32)), (.ref li_217)])) rfl (by rw [hml]; rfl) (Steps.refl _) (argsL := [(.int (1 : Int32))]) (rest := []) (lenOf own_pd570 rfl) rfl (by show 2 * 0 + _ ≤ _; exact Nat.le_of_eq rfl) (hb hby at_153) (fun _ _ => ⟨rfl, eh231, (by decide : 42 + 0 ≤ _), (by decide : 334 + 0 ≤ _)⟩)
    dsimp only [Pt.U, Pt.locs, Pt.cells, Pt.slots] at X232 l232 y232 z232 st232 hQ232
    subst l232 y232 z232
    obtain ⟨rfl, N232q, eh232⟩ := hQ232
    have N232 := Fr.app N231 N232q
    refine Good.back (fun _ k => st232.trans k) ?_
    refine Good.back (fun _ k => XS.aload X232.here hx rfl (hb hby at_158) rfl rfl k) ?_
    show Good p e below _ (T232.setTop (mkF m 160 #[.val (.int p0), .val (.int p1), .val (.int p2), .val (.int p3), .val (.int p4), .val (.int p5), .val (.int (3 : Int32)), .val (.ref tk_1), .val (.ref tk_4), .val (.ref tk_11), .val (.ref b18), .val (.ref ts_217), .val (.ref li_217), .unset, .unset, .unset, .unset, .unset, .unset] [(.ref tk_4), (.ref tk_4)]))
    refine Good.back (fun _ k => Jvm.RoadKit.acmp (g := (mkF m 160 #[.val (.int p0), .val (.int p1), .val (.int p2), .val (.int p3), .val (.int p4), .val (.int p5), .val (.int (3 : Int32)), .val (.ref tk_1), .val (.ref tk_4), .val (.ref tk_11), .val (.ref b18), .val (.ref ts_217), .val (.ref li_217), .unset, .unset, .unset, .unset, .unset, .unset] [(.ref tk_4), (.ref tk_4)])) X232 hx rfl rfl rfl (pc0 := 160) (pc' := 165) (same := true) rfl (hb hby at_160) rfl (decide_eq_true rfl) (by decide) (by decide) k) ?_
    show Good p e below _ (T232.setTop (mkF m 165 #[.val (.int p0), .val (.int p1), .val (.int p2), .val (.int p3), .val (.int p4), .val (.int p5), .val (.int (3 : Int32)), .val (.ref tk_1), .val (.ref tk_4), .val (.ref tk_11), .val (.ref b18), .val (.ref ts_217), .val (.ref li_217), .unset, .unset, .unset, .unset, .unset, .unset] []))
    refine Good.back (fun _ k => XS.iload X232.here hx rfl (hb hby at_165) rfl k) ?_
    refine Good.back (fun _ k => XS.iconst X232.here hx rfl (hb hby at_167) k) ?_
    show Good p e below _ (T232.setTop (mkF m 168 #[.val (.int p0), .val (.int p1), .val (.int p2), .val (.int p3), .val (.int p4), .val (.int p5), .val (.int (3 : Int32)), .val (.ref tk_1), .val (.ref tk_4), .val (.ref tk_11), .val (.ref b18), .val (.ref ts_217), .val (.ref li_217), .unset, .unset, .unset, .unset, .unset, .unset] [(.int (2 : Int32)), (.int (3 : Int32))]))
    refine Good.back (fun _ k => XS.icmpNo X232.here hx rfl (hb hby at_168) rfl (tlt (by decide : ((2 : Int32) < (3 : Int32)))).2.2.2 k) ?_
    show Good p e below _ (T232.setTop (mkF m 171 #[.val (.int p0), .val (.int p1), .val (.int p2), .val (.int p3), .val (.int p4), .val (.int p5), .val (.int (3 : Int32)), .val (.ref tk_1), .val (.ref tk_4), .val (.ref tk_11), .val (.ref b18), .val (.ref ts_217), .val (.ref li_217), .unset, .unset, .unset, .unset, .unset, .unset] []))
    refine Good.back (fun _ k => XS.aload X232.here hx rfl (hb hby at_171) rfl rfl k) ?_
    refine Good.back (fun _ k => XS.iconst X232.here hx rfl (hb hby at_173) k) ?_
    obtain ⟨cq233, kq233, q233a, q233b, q233c⟩ := isOf hZ11 eh232 o217_7
    obtain ⟨_, _, ⟨T233, L233, k233, n233⟩, -, X233, ⟨Lc233, hQ233, l233, y233, z233⟩, st233⟩ := X232.interfaceBack hx (xi := (⟨"java/util/List", "get", "(I)Ljava/lang/Object;"⟩ : MethodName)) (y := (⟨"java/util/ImmutableCollections$ListN", "get", "(I)Ljava/lang/Object;"⟩ : MethodName)) hown11 (mvT hZ11 (hw _ (own_m 277 rfl))) (mvT hZ11 (hw _ (own_m 278 rfl))) (mvT hZ11 (hw _ (own_m 279 rfl))) (mvT hZ11 (hw _ (own_m 301 rfl))) (mvT hZ11 (hw _ (own_m 302 rfl))) (mvT hZ11 (hw _ (own_m 303 rfl))) (mvT hZ11 (hw _ (own_m 304 rfl))) (mvT hZ11 (hw _ (own_m 149 rfl))) (by decide) (backOf (W := 0) (rm47_2 l Z a0 hw [] li_217 ea_217 ke_217 tk_1 tk_4 tk_11 T217.heap n0 Z226 o217_8 o217_9) hZ11 (hw _ (own_m 305 rfl)) (hw _ (own_m 150 rfl)) (by decide) (by decide)) q233a q233b q233c (g := (mkF m 174 #[.val (.int p0), .val (.int p1), .val (.int p2), .val (.int p3), .val (.int p4), .val (.int p5), .val (.int (3 : Int32)), .val (.ref tk_1), .val (.ref tk_4), .val (.ref tk_11), .val (.ref b18), .val (.ref ts_217), .val (.ref li_217), .unset, .unset, .unset, .unset, .unset, .unset] [(.int (2 : Int32)), (.ref li_217)])) rfl (by rw [hml]; rfl) (Steps.refl _) (argsL := [(.int (2 : Int32))]) (rest := []) (lenOf own_pd570 rfl) rfl (by show 2 * 0 + _ ≤ _; exact Nat.le_of_eq rfl) (hb hby at_174) (fun _ _ => ⟨rfl, eh232, (by decide : 42 + 0 ≤ _), (by decide : 334 + 0 ≤ _)⟩)
    dsimp only [Pt.U, Pt.locs, Pt.cells, Pt.slots] at X233 l233 y233 z233 st233 hQ233
    subst l233 y233 z233
    obtain ⟨rfl, N233q, eh233⟩ := hQ233
    have N233 := Fr.app N232 N233q
    refine Good.back (fun _ k => st233.trans k) ?_
    refine Good.back (fun _ k => XS.aload X233.here hx rfl (hb hby at_179) rfl rfl k) ?_
    show Good p e below _ (T233.setTop (mkF m 181 #[.val (.int p0), .val (.int p1), .val (.int p2), .val (.int p3), .val (.int p4), .val (.int p5), .val (.int (3 : Int32)), .val (.ref tk_1), .val (.ref tk_4), .val (.ref tk_11), .val (.ref b18), .val (.ref ts_217), .val (.ref li_217), .unset, .unset, .unset, .unset, .unset, .unset] [(.ref tk_11), (.ref tk_11)]))
    refine Good.back (fun _ k => Jvm.RoadKit.acmp (g := (mkF m 181 #[.val (.int p0), .val (.int p1), .val (.int p2), .val (.int p3), .val (.int p4), .val (.int p5), .val (.int (3 : Int32)), .val (.ref tk_1), .val (.ref tk_4), .val (.ref tk_11), .val (.ref b18), .val (.ref ts_217), .val (.ref li_217), .unset, .unset, .unset, .unset, .unset, .unset] [(.ref tk_11), (.ref tk_11)])) X233 hx rfl rfl rfl (pc0 := 181) (pc' := 186) (same := true) rfl (hb hby at_181) rfl (decide_eq_true rfl) (by decide) (by decide) k) ?_
    show Good p e below _ (T233.setTop (mkF m 186 #[.val (.int p0), .val (.int p1), .val (.int p2), .val (.int p3), .val (.int p4), .val (.int p5), .val (.int (3 : Int32)), .val (.ref tk_1), .val (.ref tk_4), .val (.ref tk_11), .val (.ref b18), .val (.ref ts_217), .val (.ref li_217), .unset, .unset, .unset, .unset, .unset, .unset] []))
    exact key186 (3 : Int32) ts_217 li_217 T217.heap _ _ (X233.mono (by decide) (by decide)) N233 eh233 (Z226) (hk227) (o217_1) (o217_2) (o217_3) (o217_4) (by decide)
set_option maxRecDepth 65536 in
set_option maxHeartbeats 40000000 in
theorem comes_1 {Post : Tables → Env → Array Value → State → Outcome → State → Prop} (hpost : ∀ tb e args s v u, (limb_1_1.after args s (.returned v) u = true ∧ limb_1_2.after args s (.returned v) u = true ∧ True) → ReturnedEndW s (.returned v) u (Jvm.fieldLocs frame_1_writes args s ++ Jvm.arrayLocs frame_1_arrays args s ++ Jvm.staticLocs frame_1_statics s) 72 3328 → Post tb e args s (.returned v) u) :
    ArmFor flags0 classFile x code maxLocals ret World_1 tables_1 room_1 Calls_1 rest_1 Pre_1 Post := by
  intro l hfl _ _ p e ha hc hk s m args below hf hA hF happ hP
  obtain ⟨hcalls, hrest, hpre⟩ := hP
  obtain ⟨-, -, -, hnamed, -, -, -, hat⟩ := (Spec.applies_iff hf).mp happ
  obtain ⟨hg, hn⟩ := and_e (Cond.before_iff.mp (show (Jvm.Cond.and given_1 narrow_1).before args s = true from hpre))
  obtain ⟨g1, g2⟩ := and_e hg
  obtain ⟨g3, g4⟩ := and_e g2
  obtain ⟨g5, g6⟩ := and_e g4
  obtain ⟨g7, g8⟩ := and_e g6
  obtain ⟨g9, g10⟩ := and_e g8
  obtain ⟨g11, g12⟩ := and_e g10
  obtain ⟨w0, w1, w2, w3, w4, w5, rfl⟩ : ∃ w0 w1 w2 w3 w4 w5 : Value, args = #[w0, w1, w2, w3, w4, w5] := by
    have hs : args.size = 6 := by simpa [Cond.value, given_1] using g1
    obtain ⟨L⟩ := args
    match L, hs with
    | [w0, w1, w2, w3, w4, w5], _ => exact ⟨w0, w1, w2, w3, w4, w5, rfl⟩
  have hw := fun d (hd : d ∈ tables_1) => atoms_spec (ws := Jvm.Cond.code x code maxLocals ret :: tables_1) hat d (List.mem_cons_of_mem _ hd)
  have hfit : Fit s := fun {y c} hc i hi => by
    obtain ⟨ha, rfl⟩ := Array.getElem?_eq_some_iff.mp hc
    have q := List.all_eq_true.mp ((Array.all_eq_true_iff_forall_mem.mp hF) _ (Array.getElem_mem ha)) i (List.mem_range.mpr hi)
    simpa [Array.getElem?_eq_getElem hi] using q
  obtain ⟨hsets, hown0⟩ := atoms_of _ (rest_1_c_eq ▸ (show rest_1_c.before _ s = true from hrest))
  have hr0 := Cond.before_iff.mp hown0
  obtain ⟨i0, ei0⟩ := is_v g3
  obtain rfl : w0 = (.int i0) := Option.some.inj ei0
  obtain ⟨i1, ei1⟩ := is_v g5
  obtain rfl : w1 = (.int i1) := Option.some.inj ei1
  obtain ⟨i2, ei2⟩ := is_v g7
  obtain rfl : w2 = (.int i2) := Option.some.inj ei2
  obtain ⟨i3, ei3⟩ := is_v g9
  obtain rfl : w3 = (.int i3) := Option.some.inj ei3
  obtain ⟨i4, ei4⟩ := is_v g11
  obtain rfl : w4 = (.int i4) := Option.some.inj ei4
  obtain ⟨i5, ei5⟩ := is_v g12
  obtain rfl : w5 = (.int i5) := Option.some.inj ei5
  have qcs1 := Cond.before_iff.mp (hsets _ (List.mem_of_getElem? (i := 1) rfl))
  obtain ⟨cs, ecs⟩ := is_v qcs1
  have qcs2 := not_v (Cond.before_iff.mp (hsets _ (List.mem_of_getElem? (i := 2) rfl)))
  have hcs : ¬ (cs = (0 : Int32)) := own_neI qcs2 ecs
  have S_cs : Sta s s.heap "java/lang/String" "COMPACT_STRINGS" "Z" (.int cs) := Sta.start ecs (Or.inl (hsets _ (List.mem_of_getElem? (i := 0) rfl)))
  obtain ⟨c1, c2⟩ := and_e hn
  obtain ⟨c3, c4⟩ := and_e c2
  obtain ⟨w_NAME, ev_w_NAME⟩ := exa_v c1
  have S_w_NAME : Sta s s.heap "com/example/liken/liken/core/Token$Abstraction" "NAME" "Lcom/example/liken/liken/core/Token$Abstraction;" (.ref w_NAME) := Sta.start ev_w_NAME (Or.inr ⟨(hw _ (own_m 49 rfl)), (hw _ (own_m 50 rfl))⟩)
  have E_w_NAME : Exa s s.heap w_NAME "com/example/liken/liken/core/Token$Abstraction" := Exa.start ev_w_NAME c1
  obtain ⟨w_SYNTAX, ev_w_SYNTAX⟩ := exa_v c3
  have S_w_SYNTAX : Sta s s.heap "com/example/liken/liken/core/Token$Abstraction" "SYNTAX" "Lcom/example/liken/liken/core/Token$Abstraction;" (.ref w_SYNTAX) := Sta.start ev_w_SYNTAX (Or.inr ⟨(hw _ (own_m 49 rfl)), (hw _ (own_m 310 rfl))⟩)
  have E_w_SYNTAX : Exa s s.heap w_SYNTAX "com/example/liken/liken/core/Token$Abstraction" := Exa.start ev_w_SYNTAX c3
  obtain ⟨w_KEPT, ev_w_KEPT⟩ := exa_v c4
  have S_w_KEPT : Sta s s.heap "com/example/liken/liken/core/Token$Abstraction" "KEPT" "Lcom/example/liken/liken/core/Token$Abstraction;" (.ref w_KEPT) := Sta.start ev_w_KEPT (Or.inr ⟨(hw _ (own_m 49 rfl)), (hw _ (own_m 312 rfl))⟩)
  have E_w_KEPT : Exa s s.heap w_KEPT "com/example/liken/liken/core/Token$Abstraction" := Exa.start ev_w_KEPT c4
  obtain ⟨de, ede⟩ := arr_v (Cond.before_iff.mp (hsets _ (List.mem_of_getElem? (i := 15) rfl)))
  obtain ⟨cld, Ad⟩ := Arr.start ede (Cond.before_iff.mp (hsets _ (List.mem_of_getElem? (i := 15) rfl)))
  have S_de : Sta s s.heap "java/util/ArrayList" "DEFAULTCAPACITY_EMPTY_ELEMENTDATA" "[Ljava/lang/Object;" (.ref de) := Sta.start ede (Or.inr ⟨(hw _ (own_m 82 rfl)), (hsets _ (List.mem_of_getElem? (i := 11) rfl))⟩)
  obtain ⟨ltd, lend⟩ := own_len Ad ede (own_eqV (Cond.before_iff.mp (hsets _ (List.mem_of_getElem? (i := 17) rfl))) rfl)
  obtain ⟨kd, hkd⟩ : ∃ z, z = cld.cls := ⟨_, rfl⟩
  have Vd : Arv s s.heap de kd (.object "java/lang/Object") (0 : Int32) [] .null := hkd ▸ Arv.start hfit Ad ltd lend (by decide) rfl trivial
  obtain ⟨el, eel⟩ := exa_v (Cond.before_iff.mp (hsets _ (List.mem_of_getElem? (i := 20) rfl)))
  have S_el : Sta s s.heap "java/util/ImmutableCollections" "EMPTY_LIST" "Ljava/util/ImmutableCollections$ListN;" (.ref el) := Sta.start eel (Or.inl (hsets _ (List.mem_of_getElem? (i := 19) rfl)))
  have E_el := Exa.start eel (Cond.before_iff.mp (hsets _ (List.mem_of_getElem? (i := 20) rfl)))
  obtain ⟨ea, eea⟩ := arr_v (Cond.before_iff.mp (hsets _ (List.mem_of_getElem? (i := 21) rfl)))
  have F_el : Fld s s.heap el "java/util/ImmutableCollections$ListN" "elements" "[Ljava/lang/Object;" (.ref ea) := Fld.start ((fld_at eel).symm.trans eea)
  obtain ⟨cle, Ae⟩ := Arr.start eea (Cond.before_iff.mp (hsets _ (List.mem_of_getElem? (i := 21) rfl)))
  obtain ⟨lte, lene⟩ := own_len Ae eea (own_eqV (Cond.before_iff.mp (hsets _ (List.mem_of_getElem? (i := 23) rfl))) rfl)
  obtain ⟨ke, hke⟩ : ∃ z, z = cle.cls := ⟨_, rfl⟩
  have V_ea : Arv s s.heap ea ke (.object "java/lang/Object") (0 : Int32) [] .null := hke ▸ Arv.start hfit Ae lte lene (by decide) rfl trivial
  obtain ⟨em, eem⟩ := exa_v (Cond.before_iff.mp (hsets _ (List.mem_of_getElem? (i := 27) rfl)))
  have S_em : Sta s s.heap "java/util/ImmutableCollections" "EMPTY" "Ljava/lang/Object;" (.ref em) := Sta.start eem (Or.inl (hsets _ (List.mem_of_getElem? (i := 26) rfl)))
  have E_em := Exa.start eem (Cond.before_iff.mp (hsets _ (List.mem_of_getElem? (i := 27) rfl)))
  obtain ⟨⟨cm, km, mr, m1, m2, m3, cellm, m4, m5⟩, -⟩ := hcalls
  have hmir : Mir s "[Ljava/lang/Object;" mr := ⟨cm, km, m1, m2, m3, cellm, m4, m5⟩
  obtain ⟨n, o, h1, h2, h3, _, L, rfl, ⟨rfl, N⟩, hq⟩ := rm0 l s _ hw tables_1 i0 i1 i2 i3 i4 i5 cs w_NAME w_SYNTAX w_KEPT de kd el ea ke em mr s.heap s.heap.size (Nat.le_refl _) S_cs hcs S_w_NAME S_w_SYNTAX S_w_KEPT S_de Vd S_el E_el F_el V_ea S_em E_em hmir p e ha hc hk s m _ below hf ((Spec.applies_iff_loose hf).mp happ).1 ⟨rfl, State.Warmed39.refl s, rfl⟩ trivial
  refine ⟨n, _, h1, h2, h3, hpost _ _ _ _ _ _ ⟨Cond.after_iff.mpr rfl, Cond.after_iff.mpr (eq_i res_at (Term.int_eval (1)) rfl), trivial⟩ ⟨hq.1, hq.2.1, hq.2.2.1, (hq.2.2.2.sift fun y hy => Or.inr (N y hy)).mono (by decide) (by decide)⟩⟩
theorem main_1_1 : Claimed_1_1 := comes_1 fun _ _ _ _ _ _ h hF => ⟨h.1, hF⟩
theorem main_1_2 : Claimed_1_2 := comes_1 fun _ _ _ _ _ _ h hF => ⟨h.2.1, hF⟩
end Jvm.Pilot.@@N@@
namespace Jvm.Pilot.@@N@@
open Jvm Jvm.ClassFile Sem Op Lib Jvm.Free Jvm.Stand Jvm.Pilot.@@N@@.Jvm.D
/-! MADE BY PROGRAM (witnessworld.py) out of the Statement's table words and the real class files: 43 classes; the members and pool entries that the words name. The judged class is class 1, her method 1. -/
namespace start1
open Jvm.ClassFile
def u (s : String) : CpInfo := .utf8 (stringToUtf16 s)
/-- a pool by its gaps: so many unusable entries, then the entry; so many at the end -/
def gap : Nat → List CpInfo → List CpInfo
  | 0, r => r
  | n + 1, r => .unusable :: gap n r
def poolList (es : List (Nat × CpInfo)) (last : Nat) : List CpInfo := es.foldr (fun e r => gap e.1 (e.2 :: r)) (gap last [])
def pool (es : List (Nat × CpInfo)) (last : Nat) : Array CpInfo := ⟨poolList es last⟩
def fileOf (pool : Array CpInfo) (this : Nat) (attrs : Array Attribute := #[]) (ms : Array MethodInfo := #[]) (fl : Nat := 33) (sup : Nat := 0) (ifs : Array Nat := #[]) (fds : Array FieldInfo := #[]) : ClassFile where
  minorVersion := 0
  majorVersion := 65
  constantPool := pool
  accessFlags := fl
  thisClass := this
  superClass := sup
  interfaces := ifs
  fields := fds
  methods := ms
  attributes := attrs
def plain (name : String) (sup : Option ClassId) : Class where
  name := name
  kind := .ordinary
  loader := none
  accessFlags := 33
  super := sup
  interfaces := #[]
  cf := none
  fields := #[]
  methods := #[]
  instanceTypes := #[]
  staticTypes := #[]
  resolved := #[]
  callSites := []
  init := .initialized
  statics := none
  mirror := none

def pool0 : Array CpInfo := pool [(5, u "<init>"), (0, u "()V"), (1, .class_ 10), (1, u "java/lang/Object"), (0, u "getClass"), (0, u "()Ljava/lang/Class;")] 111

def k0c0 : Code := { maxStack := 0, maxLocals := 1, code := object_method_1_code, exceptionTable := #[], attributes := #[] }
def k0m0 : Method := { name := "<init>", desc := "()V", sig := { parameters := [], returnType := none }, accessFlags := 1, code := some k0c0 }
def k0m1 : Method := { name := "getClass", desc := "()Ljava/lang/Class;", sig := { parameters := [], returnType := some (.object "java/lang/Class") }, accessFlags := 273, code := none }
/-- java/lang/Object -/
def k0 : Class := { plain "java/lang/Object" none with
  accessFlags := 33
  interfaces := #[]
  cf := some (fileOf pool0 8 #[] #[{ accessFlags := 1, nameIndex := 5, descriptorIndex := 6, attributes := #[] }, { accessFlags := 273, nameIndex := 11, descriptorIndex := 12, attributes := #[] }] 33 0 #[] #[])
  fields := #[]
  methods := #[k0m0, k0m1]
  instanceTypes := #[]
  staticTypes := #[]
  resolved := Array.replicate 124 none
  statics := none }

def pool1 : Array CpInfo := pool [(2, .class_ 4), (0, .nameAndType 5 6), (0, u "java/lang/Object"), (0, u "<init>"), (0, u "()V"), (0, .methodref 8 9), (0, .class_ 10), (0, .nameAndType 11 12), (0, u "com/example/liken/liken/core/TokenSliceHeldPinLaw"), (0, u "tok"), (0, u "(I)Lcom/example/liken/liken/core/Token;"), (0, .class_ 14), (0, u "java/util/ArrayList"), (0, .methodref 13 3), (0, .methodref 13 17), (0, .nameAndType 18 19), (0, u "add"), (0, u "(Ljava/lang/Object;)Z"), (0, .methodref 21 22), (0, .class_ 23), (0, .nameAndType 24 25), (0, u "com/example/liken/liken/core/TokenSlice"), (0, u "held"), (0, u "(Ljava/util/List;)Ljava/util/List;"), (0, .methodref 21 27), (0, .nameAndType 28 29), (0, u "of"), (0, u "(Ljava/util/List;)Lcom/example/liken/liken/core/TokenSlice;"), (0, .interfaceMethodref 31 32), (0, .class_ 33), (0, .nameAndType 34 35), (0, u "java/util/List"), (0, u "size"), (0, u "()I"), (0, .interfaceMethodref 31 37), (0, .nameAndType 38 39), (0, u "get"), (0, u "(I)Ljava/lang/Object;"), (0, .methodref 21 41), (0, .nameAndType 42 43), (0, u "subList"), (0, u "(II)Lcom/example/liken/liken/core/TokenSlice;"), (0, .class_ 45), (0, u "java/lang/String"), (0, .methodref 44 47), (0, .nameAndType 5 48), (0, u "([C)V"), (0, .methodref 44 50), (0, .nameAndType 51 52), (0, u "valueOf"), (0, u "(C)Ljava/lang/String;"), (0, .fieldref 54 55), (0, .class_ 56), (0, .nameAndType 57 58), (0, u "com/example/liken/liken/core/Token$Abstraction"), (0, u "NAME"), (0, u "Lcom/example/liken/liken/core/Token$Abstraction;"), (0, .fieldref 54 60), (0, .nameAndType 61 58), (0, u "SYNTAX"), (0, .fieldref 54 63), (0, .nameAndType 64 58), (0, u "KEPT"), (0, .class_ 66), (0, u "com/example/liken/liken/core/Token"), (0, .methodref 65 68), (0, .nameAndType 5 69), (0, u "(Ljava/lang/String;Ljava/lang/String;Lcom/example/liken/liken/core/Token$Abstraction;I)V"), (2, u "law"), (0, u "(IIIIII)Z")] 7

def k1m0 : Method := { name := "<init>", desc := "()V", sig := { parameters := [], returnType := none }, accessFlags := 1, code := none }
def k1c1 : Code := { maxStack := 4, maxLocals := 19, code := code, exceptionTable := #[], attributes := #[] }
def k1m1 : Method := { name := "law", desc := "(IIIIII)Z", sig := { parameters := [.int, .int, .int, .int, .int, .int], returnType := some .boolean }, accessFlags := 9, code := some k1c1 }
def k1c2 : Code := { maxStack := 6, maxLocals := 7, code := method_3_code, exceptionTable := #[], attributes := #[] }
def k1m2 : Method := { name := "tok", desc := "(I)Lcom/example/liken/liken/core/Token;", sig := { parameters := [.int], returnType := some (.object "com/example/liken/liken/core/Token") }, accessFlags := 10, code := some k1c2 }
/-- com/example/liken/liken/core/TokenSliceHeldPinLaw -/
def k1 : Class := { plain "com/example/liken/liken/core/TokenSliceHeldPinLaw" (some 0) with
  accessFlags := 49
  interfaces := #[]
  cf := some (fileOf pool1 8 #[] #[{ accessFlags := 1, nameIndex := 5, descriptorIndex := 6, attributes := #[] }, { accessFlags := 9, nameIndex := 72, descriptorIndex := 73, attributes := #[] }, { accessFlags := 10, nameIndex := 11, descriptorIndex := 12, attributes := #[] }] 49 2 #[] #[])
  fields := #[]
  methods := #[k1m0, k1m1, k1m2]
  instanceTypes := #[]
  staticTypes := #[]
  resolved := Array.replicate 81 none
  statics := none }

def pool2 : Array CpInfo := pool [(1, .class_ 2), (0, u "java/io/Serializable"), (0, .class_ 4), (0, u "java/lang/Object")] 2

/-- java/io/Serializable -/
def k2 : Class := { plain "java/io/Serializable" (some 0) with
  accessFlags := 1537
  interfaces := #[]
  cf := some (fileOf pool2 1 #[] #[] 1537 3 #[] #[])
  fields := #[]
  methods := #[]
  instanceTypes := #[]
  staticTypes := #[]
  resolved := Array.replicate 7 none
  statics := none }

def pool3 : Array CpInfo := pool [(1, .class_ 2), (0, u "java/lang/Comparable"), (0, .class_ 4), (0, u "java/lang/Object")] 7

/-- java/lang/Comparable -/
def k3 : Class := { plain "java/lang/Comparable" (some 0) with
  accessFlags := 1537
  interfaces := #[]
  cf := some (fileOf pool3 1 #[] #[] 1537 3 #[] #[])
  fields := #[]
  methods := #[]
  instanceTypes := #[]
  staticTypes := #[]
  resolved := Array.replicate 12 none
  statics := none }

def pool4 : Array CpInfo := pool [(2, .class_ 4), (1, u "java/lang/CharSequence"), (42, .class_ 48), (0, u "java/lang/CharSequence$1CodePointIterator"), (10, .class_ 60), (0, u "java/lang/CharSequence$1CharIterator"), (5, .class_ 67), (0, u "java/lang/Object")] 63

/-- java/lang/CharSequence -/
def k4 : Class := { plain "java/lang/CharSequence" (some 0) with
  accessFlags := 1537
  interfaces := #[]
  cf := some (fileOf pool4 2 #[.nestMembers #[47, 59]] #[] 1537 66 #[] #[])
  fields := #[]
  methods := #[]
  instanceTypes := #[]
  staticTypes := #[]
  resolved := Array.replicate 131 none
  statics := none }

def pool5 : Array CpInfo := pool [(1, .class_ 2), (0, u "java/lang/constant/Constable"), (0, .class_ 4), (0, u "java/lang/Object")] 6

/-- java/lang/constant/Constable -/
def k5 : Class := { plain "java/lang/constant/Constable" (some 0) with
  accessFlags := 1537
  interfaces := #[]
  cf := some (fileOf pool5 1 #[] #[] 1537 3 #[] #[])
  fields := #[]
  methods := #[]
  instanceTypes := #[]
  staticTypes := #[]
  resolved := Array.replicate 11 none
  statics := none }

def pool6 : Array CpInfo := pool [(1, .class_ 2), (0, u "java/lang/constant/ConstantDesc"), (0, .class_ 4), (0, u "java/lang/Object")] 32

/-- java/lang/constant/ConstantDesc -/
def k6 : Class := { plain "java/lang/constant/ConstantDesc" (some 0) with
  accessFlags := 1537
  interfaces := #[]
  cf := some (fileOf pool6 1 #[] #[] 1537 3 #[] #[])
  fields := #[]
  methods := #[]
  instanceTypes := #[]
  staticTypes := #[]
  resolved := Array.replicate 37 none
  statics := none }

def pool7 : Array CpInfo := pool [(1, .methodref 2 3), (0, .class_ 4), (0, .nameAndType 5 6), (0, u "java/lang/Object"), (0, u "<init>"), (0, u "()V"), (2, .fieldref 10 11), (0, .class_ 12), (0, .nameAndType 13 14), (0, u "java/lang/String"), (0, u "value"), (0, u "[B"), (0, .fieldref 10 16), (0, .nameAndType 17 18), (0, u "coder"), (0, u "B"), (2, u "hash"), (0, u "I"), (2, u "hashIsZero"), (0, u "Z"), (0, .methodref 10 28), (0, .nameAndType 5 29), (0, u "([CIILjava/lang/Void;)V"), (8, .fieldref 10 39), (0, .nameAndType 40 26), (0, u "COMPACT_STRINGS"), (1, .class_ 44), (1, u "java/lang/StringUTF16"), (0, u "compress"), (1, .methodref 42 48), (0, .nameAndType 49 50), (0, u "coderFromArrayLen"), (0, u "([BI)B"), (2, u "toBytes"), (53, .class_ 109), (1, u "java/lang/StringLatin1"), (67, .methodref 42 178), (0, .nameAndType 45 179), (0, u "([CII)[B"), (29, .methodref 10 210), (0, .nameAndType 5 211), (0, u "([BB)V"), (157, u "(C)Z"), (205, .class_ 576), (0, u "java/lang/CharSequence"), (22, u "CASE_INSENSITIVE_ORDER"), (0, u "Ljava/util/Comparator;"), (181, u "valueOf"), (0, u "(C)Ljava/lang/String;"), (226, u "([C)V"), (4, .methodref 107 1016), (0, .nameAndType 1017 369), (0, u "canEncode"), (0, .methodref 107 1019), (0, .nameAndType 53 1020), (0, u "(C)[B"), (80, u "serialPersistentFields"), (0, u "[Ljava/io/ObjectStreamField;"), (0, .class_ 1104), (0, u "java/lang/String$CaseInsensitiveComparator"), (1, .class_ 1107), (0, u "java/io/Serializable"), (0, .class_ 1109), (0, u "java/lang/Comparable"), (0, .class_ 1111), (0, u "java/lang/constant/Constable"), (0, .class_ 1113), (0, u "java/lang/constant/ConstantDesc"), (2, u "serialVersionUID"), (0, u "J"), (3, u "REPL"), (0, u "C"), (2, u "LATIN1"), (1, u "UTF16")] 323

def k7m0 : Method := { name := "<init>", desc := "()V", sig := { parameters := [], returnType := none }, accessFlags := 1, code := none }
def k7c1 : Code := { maxStack := 5, maxLocals := 2, code := jdk_42_method_3_code, exceptionTable := #[], attributes := #[] }
def k7m1 : Method := { name := "<init>", desc := "([C)V", sig := { parameters := [(.array .char)], returnType := none }, accessFlags := 1, code := some k7c1 }
def k7c2 : Code := { maxStack := 4, maxLocals := 1, code := jdk_42_method_139_code, exceptionTable := #[], attributes := #[] }
def k7m2 : Method := { name := "valueOf", desc := "(C)Ljava/lang/String;", sig := { parameters := [.char], returnType := some (.object "java/lang/String") }, accessFlags := 9, code := some k7c2 }
def k7c3 : Code := { maxStack := 4, maxLocals := 6, code := jdk_42_method_149_code, exceptionTable := #[], attributes := #[] }
def k7m3 : Method := { name := "<init>", desc := "([CIILjava/lang/Void;)V", sig := { parameters := [(.array .char), .int, .int, (.object "java/lang/Void")], returnType := none }, accessFlags := 2, code := some k7c3 }
def k7c4 : Code := { maxStack := 2, maxLocals := 3, code := jdk_42_method_151_code, exceptionTable := #[], attributes := #[] }
def k7m4 : Method := { name := "<init>", desc := "([BB)V", sig := { parameters := [(.array .byte), .byte], returnType := none }, accessFlags := 0, code := some k7c4 }
/-- java/lang/String -/
def k7 : Class := { plain "java/lang/String" (some 0) with
  accessFlags := 49
  interfaces := #[2, 3, 4, 5, 6]
  cf := some (fileOf pool7 10 #[.nestMembers #[1103]] #[{ accessFlags := 1, nameIndex := 5, descriptorIndex := 6, attributes := #[] }, { accessFlags := 1, nameIndex := 5, descriptorIndex := 1010, attributes := #[] }, { accessFlags := 9, nameIndex := 782, descriptorIndex := 783, attributes := #[] }, { accessFlags := 2, nameIndex := 5, descriptorIndex := 29, attributes := #[] }, { accessFlags := 0, nameIndex := 5, descriptorIndex := 211, attributes := #[] }] 49 2 #[1106, 1108, 575, 1110, 1112] #[{ accessFlags := 18, nameIndex := 13, descriptorIndex := 14, attributes := #[] }, { accessFlags := 18, nameIndex := 17, descriptorIndex := 18, attributes := #[] }, { accessFlags := 2, nameIndex := 21, descriptorIndex := 22, attributes := #[] }, { accessFlags := 2, nameIndex := 25, descriptorIndex := 26, attributes := #[] }, { accessFlags := 26, nameIndex := 1116, descriptorIndex := 1117, attributes := #[] }, { accessFlags := 24, nameIndex := 40, descriptorIndex := 26, attributes := #[] }, { accessFlags := 26, nameIndex := 1101, descriptorIndex := 1102, attributes := #[] }, { accessFlags := 26, nameIndex := 1121, descriptorIndex := 1122, attributes := #[] }, { accessFlags := 25, nameIndex := 599, descriptorIndex := 600, attributes := #[] }, { accessFlags := 24, nameIndex := 1125, descriptorIndex := 18, attributes := #[] }, { accessFlags := 24, nameIndex := 1127, descriptorIndex := 18, attributes := #[] }])
  fields := #[{ name := "value", type := (.array .byte), accessFlags := 18, slot := 0, constantValue := 0 }, { name := "coder", type := .byte, accessFlags := 18, slot := 1, constantValue := 0 }, { name := "hash", type := .int, accessFlags := 2, slot := 2, constantValue := 0 }, { name := "hashIsZero", type := .boolean, accessFlags := 2, slot := 3, constantValue := 0 }, { name := "serialVersionUID", type := .long, accessFlags := 26, slot := 0, constantValue := 0 }, { name := "COMPACT_STRINGS", type := .boolean, accessFlags := 24, slot := 1, constantValue := 0 }, { name := "serialPersistentFields", type := (.array (.object "java/io/ObjectStreamField")), accessFlags := 26, slot := 2, constantValue := 0 }, { name := "REPL", type := .char, accessFlags := 26, slot := 3, constantValue := 0 }, { name := "CASE_INSENSITIVE_ORDER", type := (.object "java/util/Comparator"), accessFlags := 25, slot := 4, constantValue := 0 }, { name := "LATIN1", type := .byte, accessFlags := 24, slot := 5, constantValue := 0 }, { name := "UTF16", type := .byte, accessFlags := 24, slot := 6, constantValue := 0 }]
  methods := #[k7m0, k7m1, k7m2, k7m3, k7m4]
  instanceTypes := #[(.array .byte), .byte, .int, .boolean]
  staticTypes := #[.long, .boolean, (.array (.object "java/io/ObjectStreamField")), .char, (.object "java/util/Comparator"), .byte, .byte]
  resolved := Array.replicate 1451 none
  statics := some 0 }

def pool8 : Array CpInfo := pool [(6, .class_ 8), (1, u "java/lang/Object"), (0, u "<init>"), (0, u "()V"), (1, .class_ 14), (1, u "java/lang/StringUTF16"), (31, u "$assertionsDisabled"), (0, u "Z"), (13, u "HI_BYTE_SHIFT"), (0, u "I"), (2, u "LO_BYTE_SHIFT"), (49, .methodref 12 116), (0, .nameAndType 117 118), (0, u "compress"), (0, u "([CI[BII)I"), (3, u "([CII)[B"), (138, u "coderFromArrayLen"), (0, u "([BI)B"), (106, .class_ 371), (1, u "java/lang/StringUTF16$LinesSpliterator"), (58, u "MAX_LENGTH"), (196, .class_ 628), (0, u "java/lang/StringUTF16$CodePointsSpliterator"), (0, .class_ 630), (0, u "java/lang/StringUTF16$CharsSpliterator")] 4

def k8m0 : Method := { name := "<init>", desc := "()V", sig := { parameters := [], returnType := none }, accessFlags := 0, code := none }
def k8c1 : Code := { maxStack := 2, maxLocals := 2, code := jdk_52_method_15_code, exceptionTable := #[], attributes := #[] }
def k8m1 : Method := { name := "coderFromArrayLen", desc := "([BI)B", sig := { parameters := [(.array .byte), .int], returnType := some .byte }, accessFlags := 8, code := some k8c1 }
def k8c2 : Code := { maxStack := 5, maxLocals := 6, code := jdk_52_method_16_code, exceptionTable := #[], attributes := #[] }
def k8m2 : Method := { name := "compress", desc := "([CII)[B", sig := { parameters := [(.array .char), .int, .int], returnType := some (.array .byte) }, accessFlags := 9, code := some k8c2 }
def k8c3 : Code := { maxStack := 3, maxLocals := 7, code := jdk_52_method_21_code, exceptionTable := #[], attributes := #[] }
def k8m3 : Method := { name := "compress", desc := "([CI[BII)I", sig := { parameters := [(.array .char), .int, (.array .byte), .int, .int], returnType := some .int }, accessFlags := 9, code := some k8c3 }
/-- java/lang/StringUTF16 -/
def k8 : Class := { plain "java/lang/StringUTF16" (some 0) with
  accessFlags := 48
  interfaces := #[]
  cf := some (fileOf pool8 12 #[.nestMembers #[627, 629, 369]] #[{ accessFlags := 0, nameIndex := 9, descriptorIndex := 10, attributes := #[] }, { accessFlags := 8, nameIndex := 261, descriptorIndex := 262, attributes := #[] }, { accessFlags := 9, nameIndex := 117, descriptorIndex := 122, attributes := #[] }, { accessFlags := 9, nameIndex := 117, descriptorIndex := 118, attributes := #[] }] 48 6 #[] #[{ accessFlags := 26, nameIndex := 61, descriptorIndex := 62, attributes := #[] }, { accessFlags := 26, nameIndex := 65, descriptorIndex := 62, attributes := #[] }, { accessFlags := 24, nameIndex := 430, descriptorIndex := 62, attributes := #[] }, { accessFlags := 4120, nameIndex := 46, descriptorIndex := 47, attributes := #[] }])
  fields := #[{ name := "HI_BYTE_SHIFT", type := .int, accessFlags := 26, slot := 0, constantValue := 0 }, { name := "LO_BYTE_SHIFT", type := .int, accessFlags := 26, slot := 1, constantValue := 0 }, { name := "MAX_LENGTH", type := .int, accessFlags := 24, slot := 2, constantValue := 0 }, { name := "$assertionsDisabled", type := .boolean, accessFlags := 4120, slot := 3, constantValue := 0 }]
  methods := #[k8m0, k8m1, k8m2, k8m3]
  instanceTypes := #[]
  staticTypes := #[.int, .int, .int, .boolean]
  resolved := Array.replicate 635 none
  statics := none }

def pool9 : Array CpInfo := pool [(4, .class_ 6), (1, u "java/lang/Object"), (0, u "<init>"), (0, u "()V"), (5, .class_ 16), (1, u "java/lang/StringLatin1"), (73, u "canEncode"), (14, u "(C)Z"), (15, u "$assertionsDisabled"), (0, u "Z"), (98, .class_ 223), (1, u "java/lang/StringLatin1$LinesSpliterator"), (156, u "toBytes"), (1, u "(C)[B"), (7, .class_ 391), (0, u "java/lang/StringLatin1$CharsSpliterator")] 3

def k9m0 : Method := { name := "<init>", desc := "()V", sig := { parameters := [], returnType := none }, accessFlags := 0, code := none }
def k9c1 : Code := { maxStack := 2, maxLocals := 1, code := jdk_43_method_3_code, exceptionTable := #[], attributes := #[] }
def k9m1 : Method := { name := "canEncode", desc := "(C)Z", sig := { parameters := [.char], returnType := some .boolean }, accessFlags := 9, code := some k9c1 }
def k9c2 : Code := { maxStack := 4, maxLocals := 1, code := jdk_43_method_46_code, exceptionTable := #[], attributes := #[] }
def k9m2 : Method := { name := "toBytes", desc := "(C)[B", sig := { parameters := [.char], returnType := some (.array .byte) }, accessFlags := 9, code := some k9c2 }
/-- java/lang/StringLatin1 -/
def k9 : Class := { plain "java/lang/StringLatin1" (some 0) with
  accessFlags := 48
  interfaces := #[]
  cf := some (fileOf pool9 14 #[.nestMembers #[390, 221]] #[{ accessFlags := 0, nameIndex := 7, descriptorIndex := 8, attributes := #[] }, { accessFlags := 9, nameIndex := 90, descriptorIndex := 105, attributes := #[] }, { accessFlags := 9, nameIndex := 380, descriptorIndex := 382, attributes := #[] }] 48 4 #[] #[{ accessFlags := 4120, nameIndex := 121, descriptorIndex := 122, attributes := #[] }])
  fields := #[{ name := "$assertionsDisabled", type := .boolean, accessFlags := 4120, slot := 0, constantValue := 0 }]
  methods := #[k9m0, k9m1, k9m2]
  instanceTypes := #[]
  staticTypes := #[.boolean]
  resolved := Array.replicate 395 none
  statics := none }

def pool10 : Array CpInfo := pool [(2, .class_ 4), (1, u "java/lang/Enum"), (0, u "name"), (0, u "Ljava/lang/String;"), (2, u "ordinal"), (0, u "I"), (1, .class_ 14), (1, u "java/lang/Object"), (4, u "hash"), (86, .class_ 108), (1, u "java/lang/Enum$EnumDesc"), (2, .class_ 112), (0, u "java/lang/constant/Constable"), (0, .class_ 114), (0, u "java/lang/Comparable"), (0, .class_ 116), (0, u "java/io/Serializable")] 87

/-- java/lang/Enum -/
def k10 : Class := { plain "java/lang/Enum" (some 0) with
  accessFlags := 1057
  interfaces := #[5, 3, 2]
  cf := some (fileOf pool10 2 #[.nestMembers #[106]] #[] 1057 12 #[111, 113, 115] #[{ accessFlags := 18, nameIndex := 5, descriptorIndex := 6, attributes := #[] }, { accessFlags := 18, nameIndex := 9, descriptorIndex := 10, attributes := #[] }, { accessFlags := 2, nameIndex := 19, descriptorIndex := 10, attributes := #[] }])
  fields := #[{ name := "name", type := (.object "java/lang/String"), accessFlags := 18, slot := 0, constantValue := 0 }, { name := "ordinal", type := .int, accessFlags := 18, slot := 1, constantValue := 0 }, { name := "hash", type := .int, accessFlags := 2, slot := 2, constantValue := 0 }]
  methods := #[]
  instanceTypes := #[(.object "java/lang/String"), .int, .int]
  staticTypes := #[]
  resolved := Array.replicate 204 none
  statics := none }

def pool11 : Array CpInfo := pool [(1, .class_ 2), (0, u "com/example/liken/liken/core/Token$Abstraction"), (2, u "NAME"), (0, u "Lcom/example/liken/liken/core/Token$Abstraction;"), (2, u "SYNTAX"), (2, u "KEPT"), (2, u "$VALUES"), (0, u "[Lcom/example/liken/liken/core/Token$Abstraction;"), (6, .class_ 25), (1, u "java/lang/Enum"), (26, .class_ 53), (0, u "com/example/liken/liken/core/Token")] 2

/-- com/example/liken/liken/core/Token$Abstraction -/
def k11 : Class := { plain "com/example/liken/liken/core/Token$Abstraction" (some 10) with
  accessFlags := 16433
  interfaces := #[]
  cf := some (fileOf pool11 1 #[.nestHost 52] #[] 16433 23 #[] #[{ accessFlags := 16409, nameIndex := 5, descriptorIndex := 6, attributes := #[] }, { accessFlags := 16409, nameIndex := 9, descriptorIndex := 6, attributes := #[] }, { accessFlags := 16409, nameIndex := 12, descriptorIndex := 6, attributes := #[] }, { accessFlags := 4122, nameIndex := 15, descriptorIndex := 16, attributes := #[] }])
  fields := #[{ name := "NAME", type := (.object "com/example/liken/liken/core/Token$Abstraction"), accessFlags := 16409, slot := 0, constantValue := 0 }, { name := "SYNTAX", type := (.object "com/example/liken/liken/core/Token$Abstraction"), accessFlags := 16409, slot := 1, constantValue := 0 }, { name := "KEPT", type := (.object "com/example/liken/liken/core/Token$Abstraction"), accessFlags := 16409, slot := 2, constantValue := 0 }, { name := "$VALUES", type := (.array (.object "com/example/liken/liken/core/Token$Abstraction")), accessFlags := 4122, slot := 3, constantValue := 0 }]
  methods := #[]
  instanceTypes := #[(.object "java/lang/String"), .int, .int]
  staticTypes := #[(.object "com/example/liken/liken/core/Token$Abstraction"), (.object "com/example/liken/liken/core/Token$Abstraction"), (.object "com/example/liken/liken/core/Token$Abstraction"), (.array (.object "com/example/liken/liken/core/Token$Abstraction"))]
  resolved := Array.replicate 56 none
  statics := some 1 }

def pool12 : Array CpInfo := pool [(1, .methodref 2 3), (0, .class_ 4), (0, .nameAndType 5 6), (0, u "java/lang/Object"), (0, u "<init>"), (0, u "()V"), (0, .class_ 8), (0, u "java/lang/Record")] 13

def k12c0 : Code := { maxStack := 1, maxLocals := 1, code := jdk_30_method_1_code, exceptionTable := #[], attributes := #[] }
def k12m0 : Method := { name := "<init>", desc := "()V", sig := { parameters := [], returnType := none }, accessFlags := 4, code := some k12c0 }
/-- java/lang/Record -/
def k12 : Class := { plain "java/lang/Record" (some 0) with
  accessFlags := 1057
  interfaces := #[]
  cf := some (fileOf pool12 7 #[] #[{ accessFlags := 4, nameIndex := 5, descriptorIndex := 6, attributes := #[] }] 1057 2 #[] #[])
  fields := #[]
  methods := #[k12m0]
  instanceTypes := #[]
  staticTypes := #[]
  resolved := Array.replicate 22 none
  statics := none }

def pool13 : Array CpInfo := pool [(1, .methodref 2 3), (0, .class_ 4), (0, .nameAndType 5 6), (0, u "java/lang/Record"), (0, u "<init>"), (0, u "()V"), (0, .string 8), (0, u "text"), (0, .methodref 10 11), (0, .class_ 12), (0, .nameAndType 13 14), (0, u "java/util/Objects"), (0, u "requireNonNull"), (0, u "(Ljava/lang/Object;Ljava/lang/String;)Ljava/lang/Object;"), (0, .string 16), (0, u "kind"), (0, .string 18), (0, u "abstraction"), (9, .fieldref 29 30), (0, .class_ 31), (0, .nameAndType 8 32), (0, u "com/example/liken/liken/core/Token"), (0, u "Ljava/lang/String;"), (0, .fieldref 29 34), (0, .nameAndType 16 32), (0, .fieldref 29 36), (0, .nameAndType 18 37), (0, u "Lcom/example/liken/liken/core/Token$Abstraction;"), (0, .fieldref 29 39), (0, .nameAndType 40 41), (0, u "line"), (0, u "I"), (12, u "(Ljava/lang/String;Ljava/lang/String;Lcom/example/liken/liken/core/Token$Abstraction;I)V"), (5, .class_ 61), (0, u "com/example/liken/liken/core/Token$Abstraction")] 38

def k13c0 : Code := { maxStack := 3, maxLocals := 5, code := prog_43_method_1_code, exceptionTable := #[], attributes := #[] }
def k13m0 : Method := { name := "<init>", desc := "(Ljava/lang/String;Ljava/lang/String;Lcom/example/liken/liken/core/Token$Abstraction;I)V", sig := { parameters := [(.object "java/lang/String"), (.object "java/lang/String"), (.object "com/example/liken/liken/core/Token$Abstraction"), .int], returnType := none }, accessFlags := 1, code := some k13c0 }
/-- com/example/liken/liken/core/Token -/
def k13 : Class := { plain "com/example/liken/liken/core/Token" (some 12) with
  accessFlags := 49
  interfaces := #[]
  cf := some (fileOf pool13 29 #[.nestMembers #[60]] #[{ accessFlags := 1, nameIndex := 5, descriptorIndex := 54, attributes := #[] }] 49 2 #[] #[{ accessFlags := 18, nameIndex := 8, descriptorIndex := 32, attributes := #[] }, { accessFlags := 18, nameIndex := 16, descriptorIndex := 32, attributes := #[] }, { accessFlags := 18, nameIndex := 18, descriptorIndex := 37, attributes := #[] }, { accessFlags := 18, nameIndex := 40, descriptorIndex := 41, attributes := #[] }])
  fields := #[{ name := "text", type := (.object "java/lang/String"), accessFlags := 18, slot := 0, constantValue := 0 }, { name := "kind", type := (.object "java/lang/String"), accessFlags := 18, slot := 1, constantValue := 0 }, { name := "abstraction", type := (.object "com/example/liken/liken/core/Token$Abstraction"), accessFlags := 18, slot := 2, constantValue := 0 }, { name := "line", type := .int, accessFlags := 18, slot := 3, constantValue := 0 }]
  methods := #[k13m0]
  instanceTypes := #[(.object "java/lang/String"), (.object "java/lang/String"), (.object "com/example/liken/liken/core/Token$Abstraction"), .int]
  staticTypes := #[]
  resolved := Array.replicate 100 none
  statics := none }

def pool14 : Array CpInfo := pool [(2, .class_ 4), (1, u "java/lang/Object"), (0, u "<init>"), (0, u "()V"), (35, .class_ 44), (1, u "java/util/Objects"), (0, u "requireNonNull"), (0, u "(Ljava/lang/Object;)Ljava/lang/Object;"), (47, u "(Ljava/lang/Object;Ljava/lang/String;)Ljava/lang/Object;"), (11, .class_ 108), (1, u "jdk/internal/util/Preconditions"), (2, .methodref 106 112), (0, .nameAndType 113 114), (0, u "checkFromToIndex"), (0, u "(IIILjava/util/function/BiFunction;)I"), (60, u "(III)I")] 8

def k14m0 : Method := { name := "<init>", desc := "()V", sig := { parameters := [], returnType := none }, accessFlags := 2, code := none }
def k14c1 : Code := { maxStack := 2, maxLocals := 1, code := jdk_31_method_10_code, exceptionTable := #[], attributes := #[] }
def k14m1 : Method := { name := "requireNonNull", desc := "(Ljava/lang/Object;)Ljava/lang/Object;", sig := { parameters := [(.object "java/lang/Object")], returnType := some (.object "java/lang/Object") }, accessFlags := 9, code := some k14c1 }
def k14c2 : Code := { maxStack := 3, maxLocals := 2, code := jdk_31_method_11_code, exceptionTable := #[], attributes := #[] }
def k14m2 : Method := { name := "requireNonNull", desc := "(Ljava/lang/Object;Ljava/lang/String;)Ljava/lang/Object;", sig := { parameters := [(.object "java/lang/Object"), (.object "java/lang/String")], returnType := some (.object "java/lang/Object") }, accessFlags := 9, code := some k14c2 }
def k14c3 : Code := { maxStack := 4, maxLocals := 3, code := jdk_31_method_18_code, exceptionTable := #[], attributes := #[] }
def k14m3 : Method := { name := "checkFromToIndex", desc := "(III)I", sig := { parameters := [.int, .int, .int], returnType := some .int }, accessFlags := 9, code := some k14c3 }
/-- java/util/Objects -/
def k14 : Class := { plain "java/util/Objects" (some 0) with
  accessFlags := 49
  interfaces := #[]
  cf := some (fileOf pool14 42 #[] #[{ accessFlags := 2, nameIndex := 5, descriptorIndex := 6, attributes := #[] }, { accessFlags := 9, nameIndex := 45, descriptorIndex := 46, attributes := #[] }, { accessFlags := 9, nameIndex := 45, descriptorIndex := 94, attributes := #[] }, { accessFlags := 9, nameIndex := 113, descriptorIndex := 175, attributes := #[] }] 49 2 #[] #[])
  fields := #[]
  methods := #[k14m0, k14m1, k14m2, k14m3]
  instanceTypes := #[]
  staticTypes := #[]
  resolved := Array.replicate 184 none
  statics := none }

def pool15 : Array CpInfo := pool [(8, .class_ 10), (1, u "java/lang/Iterable"), (24, .class_ 36), (0, u "java/lang/Object")] 25

/-- java/lang/Iterable -/
def k15 : Class := { plain "java/lang/Iterable" (some 0) with
  accessFlags := 1537
  interfaces := #[]
  cf := some (fileOf pool15 8 #[] #[] 1537 35 #[] #[])
  fields := #[]
  methods := #[]
  instanceTypes := #[]
  staticTypes := #[]
  resolved := Array.replicate 62 none
  statics := none }

def pool16 : Array CpInfo := pool [(10, .class_ 12), (1, u "java/util/Collection"), (0, u "toArray"), (16, u "()Z"), (29, .class_ 61), (0, u "java/lang/Object"), (0, .class_ 63), (0, u "java/lang/Iterable"), (2, u "isEmpty"), (3, u "()[Ljava/lang/Object;")] 44

def k16m0 : Method := { name := "isEmpty", desc := "()Z", sig := { parameters := [], returnType := some .boolean }, accessFlags := 1025, code := none }
def k16m1 : Method := { name := "toArray", desc := "()[Ljava/lang/Object;", sig := { parameters := [], returnType := some (.array (.object "java/lang/Object")) }, accessFlags := 1025, code := none }
/-- java/util/Collection -/
def k16 : Class := { plain "java/util/Collection" (some 0) with
  accessFlags := 1537
  interfaces := #[15]
  cf := some (fileOf pool16 10 #[] #[{ accessFlags := 1025, nameIndex := 66, descriptorIndex := 30, attributes := #[] }, { accessFlags := 1025, nameIndex := 13, descriptorIndex := 70, attributes := #[] }] 1537 60 #[62] #[])
  fields := #[]
  methods := #[k16m0, k16m1]
  instanceTypes := #[]
  staticTypes := #[]
  resolved := Array.replicate 115 none
  statics := none }

def pool17 : Array CpInfo := pool [(1, .methodref 2 3), (0, .class_ 4), (0, .nameAndType 5 6), (0, u "java/lang/Object"), (0, u "<init>"), (0, u "()V"), (1, .class_ 10), (1, u "java/util/AbstractCollection"), (66, .class_ 78), (0, u "java/util/Collection")] 81

def k17c0 : Code := { maxStack := 1, maxLocals := 1, code := jdk_22_method_1_code, exceptionTable := #[], attributes := #[] }
def k17m0 : Method := { name := "<init>", desc := "()V", sig := { parameters := [], returnType := none }, accessFlags := 4, code := some k17c0 }
/-- java/util/AbstractCollection -/
def k17 : Class := { plain "java/util/AbstractCollection" (some 0) with
  accessFlags := 1057
  interfaces := #[16]
  cf := some (fileOf pool17 8 #[] #[{ accessFlags := 4, nameIndex := 5, descriptorIndex := 6, attributes := #[] }] 1057 2 #[77] #[])
  fields := #[]
  methods := #[k17m0]
  instanceTypes := #[]
  staticTypes := #[]
  resolved := Array.replicate 160 none
  statics := none }

def pool18 : Array CpInfo := pool [(8, .class_ 10), (1, u "java/util/SequencedCollection"), (15, .class_ 27), (0, u "java/lang/Object"), (0, .class_ 29), (0, u "java/util/Collection")] 27

/-- java/util/SequencedCollection -/
def k18 : Class := { plain "java/util/SequencedCollection" (some 0) with
  accessFlags := 1537
  interfaces := #[16]
  cf := some (fileOf pool18 8 #[] #[] 1537 26 #[28] #[])
  fields := #[]
  methods := #[]
  instanceTypes := #[]
  staticTypes := #[]
  resolved := Array.replicate 57 none
  statics := none }

def pool19 : Array CpInfo := pool [(8, .class_ 10), (1, u "java/util/List"), (20, u "(Ljava/lang/Object;)V"), (16, u "<init>"), (26, u "get"), (0, u "(I)Ljava/lang/Object;"), (2, u "size"), (0, u "()I"), (7, u "of"), (1, .fieldref 91 92), (0, .class_ 93), (0, .nameAndType 94 95), (0, u "java/util/ImmutableCollections"), (0, u "EMPTY_LIST"), (0, u "Ljava/util/ImmutableCollections$ListN;"), (0, .class_ 97), (0, u "java/util/ImmutableCollections$List12"), (0, .methodref 96 99), (0, .nameAndType 48 31), (0, .methodref 96 101), (0, .nameAndType 48 102), (0, u "(Ljava/lang/Object;Ljava/lang/Object;)V"), (0, .class_ 104), (0, u "java/lang/Object"), (3, u "([Ljava/lang/Object;)Ljava/util/List;"), (0, .methodref 91 110), (0, .nameAndType 111 108), (0, u "listFromArray"), (0, .methodref 91 113), (0, .nameAndType 114 115), (0, u "listCopy"), (0, u "(Ljava/util/Collection;)Ljava/util/List;"), (3, u "()Ljava/util/List;"), (0, .class_ 121), (0, u "java/util/SequencedCollection"), (112, u "copyOf")] 16

def k19m0 : Method := { name := "size", desc := "()I", sig := { parameters := [], returnType := some .int }, accessFlags := 1025, code := none }
def k19m1 : Method := { name := "get", desc := "(I)Ljava/lang/Object;", sig := { parameters := [.int], returnType := some (.object "java/lang/Object") }, accessFlags := 1025, code := none }
def k19c2 : Code := { maxStack := 1, maxLocals := 0, code := jdk_40_method_36_code, exceptionTable := #[], attributes := #[] }
def k19m2 : Method := { name := "of", desc := "()Ljava/util/List;", sig := { parameters := [], returnType := some (.object "java/util/List") }, accessFlags := 9, code := some k19c2 }
def k19c3 : Code := { maxStack := 5, maxLocals := 2, code := jdk_40_method_47_code, exceptionTable := #[], attributes := #[] }
def k19m3 : Method := { name := "of", desc := "([Ljava/lang/Object;)Ljava/util/List;", sig := { parameters := [(.array (.object "java/lang/Object"))], returnType := some (.object "java/util/List") }, accessFlags := 137, code := some k19c3 }
def k19c4 : Code := { maxStack := 1, maxLocals := 1, code := jdk_40_method_48_code, exceptionTable := #[], attributes := #[] }
def k19m4 : Method := { name := "copyOf", desc := "(Ljava/util/Collection;)Ljava/util/List;", sig := { parameters := [(.object "java/util/Collection")], returnType := some (.object "java/util/List") }, accessFlags := 9, code := some k19c4 }
/-- java/util/List -/
def k19 : Class := { plain "java/util/List" (some 0) with
  accessFlags := 1537
  interfaces := #[18]
  cf := some (fileOf pool19 8 #[] #[{ accessFlags := 1025, nameIndex := 79, descriptorIndex := 80, attributes := #[] }, { accessFlags := 1025, nameIndex := 75, descriptorIndex := 76, attributes := #[] }, { accessFlags := 9, nameIndex := 88, descriptorIndex := 119, attributes := #[] }, { accessFlags := 137, nameIndex := 88, descriptorIndex := 108, attributes := #[] }, { accessFlags := 9, nameIndex := 234, descriptorIndex := 115, attributes := #[] }] 1537 103 #[120] #[])
  fields := #[]
  methods := #[k19m0, k19m1, k19m2, k19m3, k19m4]
  instanceTypes := #[]
  staticTypes := #[]
  resolved := Array.replicate 251 none
  statics := none }

def pool20 : Array CpInfo := pool [(1, .methodref 2 3), (0, .class_ 4), (0, .nameAndType 5 6), (0, u "java/util/AbstractCollection"), (0, u "<init>"), (0, u "()V"), (0, .fieldref 8 9), (0, .class_ 10), (0, .nameAndType 11 12), (0, u "java/util/AbstractList"), (0, u "modCount"), (0, u "I"), (64, .class_ 78), (0, u "java/util/AbstractList$Itr"), (3, .class_ 83), (0, u "java/util/AbstractList$ListItr"), (9, .class_ 94), (0, u "java/util/AbstractList$RandomAccessSubList"), (3, .class_ 99), (0, u "java/util/AbstractList$SubList"), (33, .class_ 134), (0, u "java/util/List"), (73, .class_ 209), (0, u "java/util/AbstractList$SubList$1"), (0, .class_ 211), (0, u "java/util/AbstractList$RandomAccessSpliterator")] 6

def k20c0 : Code := { maxStack := 2, maxLocals := 1, code := jdk_39_method_1_code, exceptionTable := #[], attributes := #[] }
def k20m0 : Method := { name := "<init>", desc := "()V", sig := { parameters := [], returnType := none }, accessFlags := 4, code := some k20c0 }
/-- java/util/AbstractList -/
def k20 : Class := { plain "java/util/AbstractList" (some 17) with
  accessFlags := 1057
  interfaces := #[19]
  cf := some (fileOf pool20 8 #[.nestMembers #[93, 98, 208, 210, 82, 77]] #[{ accessFlags := 4, nameIndex := 5, descriptorIndex := 6, attributes := #[] }] 1057 2 #[133] #[{ accessFlags := 132, nameIndex := 11, descriptorIndex := 12, attributes := #[] }])
  fields := #[{ name := "modCount", type := .int, accessFlags := 132, slot := 0, constantValue := 0 }]
  methods := #[k20m0]
  instanceTypes := #[.int]
  staticTypes := #[]
  resolved := Array.replicate 218 none
  statics := none }

def pool21 : Array CpInfo := pool [(1, .class_ 2), (0, u "java/util/RandomAccess"), (0, .class_ 4), (0, u "java/lang/Object")] 2

/-- java/util/RandomAccess -/
def k21 : Class := { plain "java/util/RandomAccess" (some 0) with
  accessFlags := 1537
  interfaces := #[]
  cf := some (fileOf pool21 1 #[] #[] 1537 3 #[] #[])
  fields := #[]
  methods := #[]
  instanceTypes := #[]
  staticTypes := #[]
  resolved := Array.replicate 7 none
  statics := none }

def pool22 : Array CpInfo := pool [(1, .class_ 2), (0, u "java/lang/Cloneable"), (0, .class_ 4), (0, u "java/lang/Object")] 2

/-- java/lang/Cloneable -/
def k22 : Class := { plain "java/lang/Cloneable" (some 0) with
  accessFlags := 1537
  interfaces := #[]
  cf := some (fileOf pool22 1 #[] #[] 1537 3 #[] #[])
  fields := #[]
  methods := #[]
  instanceTypes := #[]
  staticTypes := #[]
  resolved := Array.replicate 7 none
  statics := none }

def pool23 : Array CpInfo := pool [(1, .methodref 2 3), (0, .class_ 4), (0, .nameAndType 5 6), (0, u "java/util/AbstractList"), (0, u "<init>"), (0, u "()V"), (0, .class_ 8), (0, u "java/lang/Object"), (0, .fieldref 10 11), (0, .class_ 12), (0, .nameAndType 13 14), (0, u "java/util/ArrayList"), (0, u "elementData"), (0, u "[Ljava/lang/Object;"), (2, u "EMPTY_ELEMENTDATA"), (21, .fieldref 10 40), (0, .nameAndType 41 14), (0, u "DEFAULTCAPACITY_EMPTY_ELEMENTDATA"), (4, u "toArray"), (0, u "()[Ljava/lang/Object;"), (0, .fieldref 10 49), (0, .nameAndType 50 51), (0, u "size"), (0, u "I"), (6, .class_ 60), (1, u "java/util/Arrays"), (0, u "copyOf"), (1, .fieldref 10 64), (0, .nameAndType 65 51), (0, u "modCount"), (0, .methodref 58 67), (0, .nameAndType 61 68), (0, u "([Ljava/lang/Object;I)[Ljava/lang/Object;"), (0, .methodref 10 70), (0, .nameAndType 71 72), (0, u "grow"), (0, u "(I)[Ljava/lang/Object;"), (6, .methodref 80 81), (0, .class_ 82), (0, .nameAndType 83 84), (0, u "java/lang/Math"), (0, u "max"), (0, u "(II)I"), (11, u "(Ljava/lang/Object;)Z"), (32, .methodref 10 130), (0, .nameAndType 71 47), (0, .methodref 10 132), (0, .nameAndType 133 134), (0, u "add"), (0, u "(Ljava/lang/Object;[Ljava/lang/Object;I)V"), (13, .class_ 149), (0, u "java/util/List"), (23, u "()Z"), (88, .class_ 263), (0, u "java/util/ArrayList$ListItr"), (3, .class_ 268), (0, u "java/util/ArrayList$Itr"), (7, .class_ 277), (0, u "java/util/ArrayList$SubList"), (12, .class_ 291), (0, u "java/util/ArrayList$ArrayListSpliterator"), (37, .class_ 330), (0, u "java/util/RandomAccess"), (0, .class_ 332), (0, u "java/lang/Cloneable"), (0, .class_ 334), (0, u "java/io/Serializable"), (0, u "serialVersionUID"), (0, u "J"), (3, u "DEFAULT_CAPACITY"), (22, u "isEmpty"), (136, .class_ 501), (0, u "java/util/ArrayList$SubList$2"), (0, .class_ 503), (0, u "java/util/ArrayList$SubList$1")] 5

def k23c0 : Code := { maxStack := 2, maxLocals := 1, code := jdk_38_method_2_code, exceptionTable := #[], attributes := #[] }
def k23m0 : Method := { name := "<init>", desc := "()V", sig := { parameters := [], returnType := none }, accessFlags := 1, code := some k23c0 }
def k23c1 : Code := { maxStack := 4, maxLocals := 4, code := jdk_38_method_6_code, exceptionTable := #[], attributes := #[] }
def k23m1 : Method := { name := "grow", desc := "(I)[Ljava/lang/Object;", sig := { parameters := [.int], returnType := some (.array (.object "java/lang/Object")) }, accessFlags := 2, code := some k23c1 }
def k23c2 : Code := { maxStack := 3, maxLocals := 1, code := jdk_38_method_7_code, exceptionTable := #[], attributes := #[] }
def k23m2 : Method := { name := "grow", desc := "()[Ljava/lang/Object;", sig := { parameters := [], returnType := some (.array (.object "java/lang/Object")) }, accessFlags := 2, code := some k23c2 }
def k23c3 : Code := { maxStack := 1, maxLocals := 1, code := jdk_38_method_9_code, exceptionTable := #[], attributes := #[] }
def k23m3 : Method := { name := "isEmpty", desc := "()Z", sig := { parameters := [], returnType := some .boolean }, accessFlags := 1, code := some k23c3 }
def k23c4 : Code := { maxStack := 2, maxLocals := 1, code := jdk_38_method_16_code, exceptionTable := #[], attributes := #[] }
def k23m4 : Method := { name := "toArray", desc := "()[Ljava/lang/Object;", sig := { parameters := [], returnType := some (.array (.object "java/lang/Object")) }, accessFlags := 1, code := some k23c4 }
def k23c5 : Code := { maxStack := 3, maxLocals := 4, code := jdk_38_method_24_code, exceptionTable := #[], attributes := #[] }
def k23m5 : Method := { name := "add", desc := "(Ljava/lang/Object;[Ljava/lang/Object;I)V", sig := { parameters := [(.object "java/lang/Object"), (.array (.object "java/lang/Object")), .int], returnType := none }, accessFlags := 2, code := some k23c5 }
def k23c6 : Code := { maxStack := 4, maxLocals := 2, code := jdk_38_method_25_code, exceptionTable := #[], attributes := #[] }
def k23m6 : Method := { name := "add", desc := "(Ljava/lang/Object;)Z", sig := { parameters := [(.object "java/lang/Object")], returnType := some .boolean }, accessFlags := 1, code := some k23c6 }
/-- java/util/ArrayList -/
def k23 : Class := { plain "java/util/ArrayList" (some 20) with
  accessFlags := 33
  interfaces := #[19, 21, 22, 2]
  cf := some (fileOf pool23 10 #[.nestMembers #[290, 276, 500, 502, 262, 267]] #[{ accessFlags := 1, nameIndex := 5, descriptorIndex := 6, attributes := #[] }, { accessFlags := 2, nameIndex := 71, descriptorIndex := 72, attributes := #[] }, { accessFlags := 2, nameIndex := 71, descriptorIndex := 47, attributes := #[] }, { accessFlags := 1, nameIndex := 363, descriptorIndex := 173, attributes := #[] }, { accessFlags := 1, nameIndex := 46, descriptorIndex := 47, attributes := #[] }, { accessFlags := 2, nameIndex := 133, descriptorIndex := 134, attributes := #[] }, { accessFlags := 1, nameIndex := 133, descriptorIndex := 96, attributes := #[] }] 33 2 #[148, 329, 331, 333] #[{ accessFlags := 26, nameIndex := 335, descriptorIndex := 336, attributes := #[] }, { accessFlags := 26, nameIndex := 340, descriptorIndex := 51, attributes := #[] }, { accessFlags := 26, nameIndex := 17, descriptorIndex := 14, attributes := #[] }, { accessFlags := 26, nameIndex := 41, descriptorIndex := 14, attributes := #[] }, { accessFlags := 128, nameIndex := 13, descriptorIndex := 14, attributes := #[] }, { accessFlags := 2, nameIndex := 50, descriptorIndex := 51, attributes := #[] }])
  fields := #[{ name := "serialVersionUID", type := .long, accessFlags := 26, slot := 0, constantValue := 0 }, { name := "DEFAULT_CAPACITY", type := .int, accessFlags := 26, slot := 1, constantValue := 0 }, { name := "EMPTY_ELEMENTDATA", type := (.array (.object "java/lang/Object")), accessFlags := 26, slot := 2, constantValue := 0 }, { name := "DEFAULTCAPACITY_EMPTY_ELEMENTDATA", type := (.array (.object "java/lang/Object")), accessFlags := 26, slot := 3, constantValue := 0 }, { name := "elementData", type := (.array (.object "java/lang/Object")), accessFlags := 128, slot := 1, constantValue := 0 }, { name := "size", type := .int, accessFlags := 2, slot := 2, constantValue := 0 }]
  methods := #[k23m0, k23m1, k23m2, k23m3, k23m4, k23m5, k23m6]
  instanceTypes := #[.int, (.array (.object "java/lang/Object")), .int]
  staticTypes := #[.long, .int, (.array (.object "java/lang/Object")), (.array (.object "java/lang/Object"))]
  resolved := Array.replicate 509 none
  statics := some 2 }

def pool24 : Array CpInfo := pool [(1, .methodref 2 3), (0, .class_ 4), (0, .nameAndType 5 6), (0, u "java/util/AbstractList"), (0, u "<init>"), (0, u "()V"), (0, .fieldref 8 9), (0, .class_ 10), (0, .nameAndType 11 12), (0, u "com/example/liken/liken/core/TokenSlice"), (0, u "all"), (0, u "Ljava/util/List;"), (0, .fieldref 8 14), (0, .nameAndType 15 16), (0, u "from"), (0, u "I"), (0, .fieldref 8 18), (0, .nameAndType 19 16), (0, u "size"), (0, .interfaceMethodref 21 22), (0, .class_ 23), (0, .nameAndType 24 25), (0, u "java/util/List"), (0, u "copyOf"), (0, u "(Ljava/util/Collection;)Ljava/util/List;"), (0, .interfaceMethodref 21 27), (0, .nameAndType 19 28), (0, u "()I"), (0, .methodref 8 30), (0, .nameAndType 5 31), (0, u "(Ljava/util/List;II)V"), (1, .class_ 35), (1, u "java/util/Objects"), (8, .methodref 33 45), (0, .nameAndType 46 47), (0, u "checkFromToIndex"), (0, u "(III)I"), (2, u "subList"), (0, u "(II)Lcom/example/liken/liken/core/TokenSlice;"), (3, .class_ 56), (0, u "java/util/RandomAccess"), (5, u "of"), (0, u "(Ljava/util/List;)Lcom/example/liken/liken/core/TokenSlice;"), (2, u "(Ljava/util/List;)Ljava/util/List;"), (2, u "held")] 5

def k24c0 : Code := { maxStack := 2, maxLocals := 4, code := prog_45_method_1_code, exceptionTable := #[], attributes := #[] }
def k24m0 : Method := { name := "<init>", desc := "(Ljava/util/List;II)V", sig := { parameters := [(.object "java/util/List"), .int, .int], returnType := none }, accessFlags := 2, code := some k24c0 }
def k24c1 : Code := { maxStack := 5, maxLocals := 2, code := prog_45_method_2_code, exceptionTable := #[], attributes := #[] }
def k24m1 : Method := { name := "of", desc := "(Ljava/util/List;)Lcom/example/liken/liken/core/TokenSlice;", sig := { parameters := [(.object "java/util/List")], returnType := some (.object "com/example/liken/liken/core/TokenSlice") }, accessFlags := 8, code := some k24c1 }
def k24c2 : Code := { maxStack := 1, maxLocals := 2, code := prog_45_method_4_code, exceptionTable := #[], attributes := #[] }
def k24m2 : Method := { name := "held", desc := "(Ljava/util/List;)Ljava/util/List;", sig := { parameters := [(.object "java/util/List")], returnType := some (.object "java/util/List") }, accessFlags := 8, code := some k24c2 }
def k24c3 : Code := { maxStack := 6, maxLocals := 3, code := prog_45_method_7_code, exceptionTable := #[], attributes := #[] }
def k24m3 : Method := { name := "subList", desc := "(II)Lcom/example/liken/liken/core/TokenSlice;", sig := { parameters := [.int, .int], returnType := some (.object "com/example/liken/liken/core/TokenSlice") }, accessFlags := 1, code := some k24c3 }
/-- com/example/liken/liken/core/TokenSlice -/
def k24 : Class := { plain "com/example/liken/liken/core/TokenSlice" (some 20) with
  accessFlags := 48
  interfaces := #[21]
  cf := some (fileOf pool24 8 #[] #[{ accessFlags := 2, nameIndex := 5, descriptorIndex := 31, attributes := #[] }, { accessFlags := 8, nameIndex := 62, descriptorIndex := 63, attributes := #[] }, { accessFlags := 8, nameIndex := 69, descriptorIndex := 66, attributes := #[] }, { accessFlags := 1, nameIndex := 50, descriptorIndex := 51, attributes := #[] }] 48 2 #[55] #[{ accessFlags := 18, nameIndex := 11, descriptorIndex := 12, attributes := #[] }, { accessFlags := 18, nameIndex := 15, descriptorIndex := 16, attributes := #[] }, { accessFlags := 18, nameIndex := 19, descriptorIndex := 16, attributes := #[] }])
  fields := #[{ name := "all", type := (.object "java/util/List"), accessFlags := 18, slot := 1, constantValue := 0 }, { name := "from", type := .int, accessFlags := 18, slot := 2, constantValue := 0 }, { name := "size", type := .int, accessFlags := 18, slot := 3, constantValue := 0 }]
  methods := #[k24m0, k24m1, k24m2, k24m3]
  instanceTypes := #[.int, (.object "java/util/List"), .int, .int]
  staticTypes := #[]
  resolved := Array.replicate 75 none
  statics := none }

def pool25 : Array CpInfo := pool [(2, .class_ 4), (1, u "java/lang/Object"), (0, u "<init>"), (0, u "()V"), (3, .class_ 11), (0, u "java/util/ImmutableCollections$List12"), (0, .class_ 13), (0, u "java/util/ImmutableCollections$ListN"), (3, u "Z"), (0, .class_ 19), (0, u "java/util/List"), (0, .interfaceMethodref 21 22), (0, .class_ 23), (0, .nameAndType 24 25), (0, u "java/util/Collection"), (0, u "isEmpty"), (0, u "()Z"), (0, .interfaceMethodref 18 27), (0, .nameAndType 28 29), (0, u "of"), (0, u "()Ljava/util/List;"), (0, .interfaceMethodref 21 31), (0, .nameAndType 32 33), (0, u "toArray"), (0, u "()[Ljava/lang/Object;"), (0, .interfaceMethodref 18 35), (0, .nameAndType 28 36), (0, u "([Ljava/lang/Object;)Ljava/util/List;"), (0, .methodref 38 39), (0, .class_ 40), (0, .nameAndType 41 42), (0, u "java/util/Objects"), (0, u "requireNonNull"), (0, u "(Ljava/lang/Object;)Ljava/lang/Object;"), (0, .methodref 12 44), (0, .nameAndType 5 45), (0, u "([Ljava/lang/Object;Z)V"), (1, .class_ 49), (1, u "java/util/ImmutableCollections"), (0, u "$assertionsDisabled"), (5, u "[Ljava/lang/Object;"), (5, u "EMPTY_LIST"), (0, u "Ljava/util/ImmutableCollections$ListN;"), (8, u "EMPTY_LIST_NULLS"), (22, u "SALT32L"), (0, u "J"), (2, u "REVERSE"), (6, u "archivedObjects"), (2, u "EMPTY"), (0, u "Ljava/lang/Object;"), (0, .class_ 112), (0, u "java/util/ImmutableCollections$SetN"), (5, u "EMPTY_SET"), (0, u "Ljava/util/ImmutableCollections$SetN;"), (0, .class_ 121), (0, u "java/util/ImmutableCollections$MapN"), (3, u "EMPTY_MAP"), (0, u "Ljava/util/ImmutableCollections$MapN;"), (4, u "EXPAND_FACTOR"), (0, u "I"), (9, u "listCopy"), (0, u "(Ljava/util/Collection;)Ljava/util/List;"), (7, u "listFromArray"), (17, .class_ 170), (0, u "java/util/ImmutableCollections$MapN$MapNIterator"), (0, .class_ 172), (0, u "java/util/ImmutableCollections$MapN$1"), (0, .class_ 174), (0, u "java/util/ImmutableCollections$Map1"), (0, .class_ 176), (0, u "java/util/ImmutableCollections$AbstractImmutableMap"), (0, .class_ 178), (0, u "java/util/ImmutableCollections$SetN$SetNIterator"), (0, .class_ 180), (0, u "java/util/ImmutableCollections$Set12"), (0, .class_ 182), (0, u "java/util/ImmutableCollections$Set12$1"), (0, .class_ 184), (0, u "java/util/ImmutableCollections$AbstractImmutableSet"), (0, .class_ 186), (0, u "java/util/ImmutableCollections$SubList"), (0, .class_ 188), (0, u "java/util/ImmutableCollections$ListItr"), (0, .class_ 190), (0, u "java/util/ImmutableCollections$AbstractImmutableList"), (0, .class_ 192), (0, u "java/util/ImmutableCollections$AbstractImmutableCollection"), (0, .class_ 194), (0, u "java/util/ImmutableCollections$Access"), (0, .class_ 196), (0, u "java/util/ImmutableCollections$Access$1")] 16

def k25m0 : Method := { name := "<init>", desc := "()V", sig := { parameters := [], returnType := none }, accessFlags := 2, code := none }
def k25c1 : Code := { maxStack := 1, maxLocals := 2, code := jdk_56_method_3_code, exceptionTable := #[], attributes := #[] }
def k25m1 : Method := { name := "listCopy", desc := "(Ljava/util/Collection;)Ljava/util/List;", sig := { parameters := [(.object "java/util/Collection")], returnType := some (.object "java/util/List") }, accessFlags := 8, code := some k25c1 }
def k25c2 : Code := { maxStack := 4, maxLocals := 3, code := jdk_56_method_4_code, exceptionTable := #[], attributes := #[] }
def k25m2 : Method := { name := "listFromArray", desc := "([Ljava/lang/Object;)Ljava/util/List;", sig := { parameters := [(.array (.object "java/lang/Object"))], returnType := some (.object "java/util/List") }, accessFlags := 136, code := some k25c2 }
/-- java/util/ImmutableCollections -/
def k25 : Class := { plain "java/util/ImmutableCollections" (some 0) with
  accessFlags := 32
  interfaces := #[]
  cf := some (fileOf pool25 47 #[.nestMembers #[120, 169, 171, 173, 175, 111, 177, 179, 181, 183, 12, 10, 185, 187, 189, 191, 193, 195]] #[{ accessFlags := 2, nameIndex := 5, descriptorIndex := 6, attributes := #[] }, { accessFlags := 8, nameIndex := 142, descriptorIndex := 143, attributes := #[] }, { accessFlags := 136, nameIndex := 151, descriptorIndex := 36, attributes := #[] }] 32 2 #[] #[{ accessFlags := 26, nameIndex := 95, descriptorIndex := 96, attributes := #[] }, { accessFlags := 26, nameIndex := 99, descriptorIndex := 17, attributes := #[] }, { accessFlags := 10, nameIndex := 106, descriptorIndex := 56, attributes := #[] }, { accessFlags := 26, nameIndex := 109, descriptorIndex := 110, attributes := #[] }, { accessFlags := 24, nameIndex := 62, descriptorIndex := 63, attributes := #[] }, { accessFlags := 24, nameIndex := 72, descriptorIndex := 63, attributes := #[] }, { accessFlags := 24, nameIndex := 118, descriptorIndex := 119, attributes := #[] }, { accessFlags := 24, nameIndex := 125, descriptorIndex := 126, attributes := #[] }, { accessFlags := 24, nameIndex := 131, descriptorIndex := 132, attributes := #[] }, { accessFlags := 4120, nameIndex := 50, descriptorIndex := 17, attributes := #[] }])
  fields := #[{ name := "SALT32L", type := .long, accessFlags := 26, slot := 0, constantValue := 0 }, { name := "REVERSE", type := .boolean, accessFlags := 26, slot := 1, constantValue := 0 }, { name := "archivedObjects", type := (.array (.object "java/lang/Object")), accessFlags := 10, slot := 2, constantValue := 0 }, { name := "EMPTY", type := (.object "java/lang/Object"), accessFlags := 26, slot := 3, constantValue := 0 }, { name := "EMPTY_LIST", type := (.object "java/util/ImmutableCollections$ListN"), accessFlags := 24, slot := 4, constantValue := 0 }, { name := "EMPTY_LIST_NULLS", type := (.object "java/util/ImmutableCollections$ListN"), accessFlags := 24, slot := 5, constantValue := 0 }, { name := "EMPTY_SET", type := (.object "java/util/ImmutableCollections$SetN"), accessFlags := 24, slot := 6, constantValue := 0 }, { name := "EMPTY_MAP", type := (.object "java/util/ImmutableCollections$MapN"), accessFlags := 24, slot := 7, constantValue := 0 }, { name := "EXPAND_FACTOR", type := .int, accessFlags := 24, slot := 8, constantValue := 0 }, { name := "$assertionsDisabled", type := .boolean, accessFlags := 4120, slot := 9, constantValue := 0 }]
  methods := #[k25m0, k25m1, k25m2]
  instanceTypes := #[]
  staticTypes := #[.long, .boolean, (.array (.object "java/lang/Object")), (.object "java/lang/Object"), (.object "java/util/ImmutableCollections$ListN"), (.object "java/util/ImmutableCollections$ListN"), (.object "java/util/ImmutableCollections$SetN"), (.object "java/util/ImmutableCollections$MapN"), .int, .boolean]
  resolved := Array.replicate 213 none
  statics := some 3 }

def pool26 : Array CpInfo := pool [(1, .methodref 2 3), (0, .class_ 4), (0, .nameAndType 5 6), (0, u "java/util/AbstractCollection"), (0, u "<init>"), (0, u "()V"), (1, .class_ 10), (1, u "java/util/ImmutableCollections"), (2, .class_ 14), (0, u "java/util/ImmutableCollections$AbstractImmutableCollection")] 41

def k26c0 : Code := { maxStack := 1, maxLocals := 1, code := jdk_47_method_1_code, exceptionTable := #[], attributes := #[] }
def k26m0 : Method := { name := "<init>", desc := "()V", sig := { parameters := [], returnType := none }, accessFlags := 0, code := some k26c0 }
/-- java/util/ImmutableCollections$AbstractImmutableCollection -/
def k26 : Class := { plain "java/util/ImmutableCollections$AbstractImmutableCollection" (some 17) with
  accessFlags := 1056
  interfaces := #[]
  cf := some (fileOf pool26 13 #[.nestHost 8] #[{ accessFlags := 0, nameIndex := 5, descriptorIndex := 6, attributes := #[] }] 1056 2 #[] #[])
  fields := #[]
  methods := #[k26m0]
  instanceTypes := #[]
  staticTypes := #[]
  resolved := Array.replicate 56 none
  statics := none }

def pool27 : Array CpInfo := pool [(1, .methodref 2 3), (0, .class_ 4), (0, .nameAndType 5 6), (0, u "java/util/ImmutableCollections$AbstractImmutableCollection"), (0, u "<init>"), (0, u "()V"), (1, .class_ 10), (1, u "java/util/ImmutableCollections"), (3, .class_ 16), (1, u "java/util/ImmutableCollections$AbstractImmutableList"), (60, .class_ 78), (0, u "java/util/List"), (45, .class_ 125), (0, u "java/util/RandomAccess")] 70

def k27c0 : Code := { maxStack := 1, maxLocals := 1, code := jdk_46_method_1_code, exceptionTable := #[], attributes := #[] }
def k27m0 : Method := { name := "<init>", desc := "()V", sig := { parameters := [], returnType := none }, accessFlags := 0, code := some k27c0 }
/-- java/util/ImmutableCollections$AbstractImmutableList -/
def k27 : Class := { plain "java/util/ImmutableCollections$AbstractImmutableList" (some 26) with
  accessFlags := 1056
  interfaces := #[19, 21]
  cf := some (fileOf pool27 14 #[.nestHost 8] #[{ accessFlags := 0, nameIndex := 5, descriptorIndex := 6, attributes := #[] }] 1056 2 #[77, 124] #[])
  fields := #[]
  methods := #[k27m0]
  instanceTypes := #[]
  staticTypes := #[]
  resolved := Array.replicate 196 none
  statics := none }

def pool28 : Array CpInfo := pool [(1, .methodref 2 3), (0, .class_ 4), (0, .nameAndType 5 6), (0, u "java/util/ImmutableCollections$AbstractImmutableList"), (0, u "<init>"), (0, u "()V"), (0, .methodref 8 9), (0, .class_ 10), (0, .nameAndType 11 12), (0, u "java/util/Objects"), (0, u "requireNonNull"), (0, u "(Ljava/lang/Object;)Ljava/lang/Object;"), (0, .fieldref 14 15), (0, .class_ 16), (0, .nameAndType 17 18), (0, u "java/util/ImmutableCollections$List12"), (0, u "e0"), (0, u "Ljava/lang/Object;"), (0, .fieldref 20 21), (0, .class_ 22), (0, .nameAndType 23 18), (0, u "java/util/ImmutableCollections"), (0, u "EMPTY"), (0, .fieldref 14 25), (0, .nameAndType 26 18), (0, u "e1"), (24, u "size"), (0, u "()I"), (17, .class_ 71), (0, u "java/io/Serializable"), (4, u "(Ljava/lang/Object;)V"), (8, u "(Ljava/lang/Object;Ljava/lang/Object;)V"), (4, u "get"), (0, u "(I)Ljava/lang/Object;")] 33

def k28c0 : Code := { maxStack := 2, maxLocals := 2, code := jdk_44_method_1_code, exceptionTable := #[], attributes := #[] }
def k28m0 : Method := { name := "<init>", desc := "(Ljava/lang/Object;)V", sig := { parameters := [(.object "java/lang/Object")], returnType := none }, accessFlags := 0, code := some k28c0 }
def k28c1 : Code := { maxStack := 2, maxLocals := 3, code := jdk_44_method_2_code, exceptionTable := #[], attributes := #[] }
def k28m1 : Method := { name := "<init>", desc := "(Ljava/lang/Object;Ljava/lang/Object;)V", sig := { parameters := [(.object "java/lang/Object"), (.object "java/lang/Object")], returnType := none }, accessFlags := 0, code := some k28c1 }
def k28c2 : Code := { maxStack := 2, maxLocals := 1, code := jdk_44_method_3_code, exceptionTable := #[], attributes := #[] }
def k28m2 : Method := { name := "size", desc := "()I", sig := { parameters := [], returnType := some .int }, accessFlags := 1, code := some k28c2 }
def k28c3 : Code := { maxStack := 2, maxLocals := 2, code := jdk_44_method_5_code, exceptionTable := #[], attributes := #[] }
def k28m3 : Method := { name := "get", desc := "(I)Ljava/lang/Object;", sig := { parameters := [.int], returnType := some (.object "java/lang/Object") }, accessFlags := 1, code := some k28c3 }
/-- java/util/ImmutableCollections$List12 -/
def k28 : Class := { plain "java/util/ImmutableCollections$List12" (some 27) with
  accessFlags := 48
  interfaces := #[2]
  cf := some (fileOf pool28 14 #[.nestHost 20] #[{ accessFlags := 0, nameIndex := 5, descriptorIndex := 76, attributes := #[] }, { accessFlags := 0, nameIndex := 5, descriptorIndex := 85, attributes := #[] }, { accessFlags := 1, nameIndex := 51, descriptorIndex := 52, attributes := #[] }, { accessFlags := 1, nameIndex := 90, descriptorIndex := 91, attributes := #[] }] 48 2 #[70] #[{ accessFlags := 18, nameIndex := 17, descriptorIndex := 18, attributes := #[] }, { accessFlags := 18, nameIndex := 26, descriptorIndex := 18, attributes := #[] }])
  fields := #[{ name := "e0", type := (.object "java/lang/Object"), accessFlags := 18, slot := 0, constantValue := 0 }, { name := "e1", type := (.object "java/lang/Object"), accessFlags := 18, slot := 1, constantValue := 0 }]
  methods := #[k28m0, k28m1, k28m2, k28m3]
  instanceTypes := #[(.object "java/lang/Object"), (.object "java/lang/Object")]
  staticTypes := #[]
  resolved := Array.replicate 125 none
  statics := none }

def pool29 : Array CpInfo := pool [(1, .methodref 2 3), (0, .class_ 4), (0, .nameAndType 5 6), (0, u "java/util/ImmutableCollections$AbstractImmutableList"), (0, u "<init>"), (0, u "()V"), (0, .fieldref 8 9), (0, .class_ 10), (0, .nameAndType 11 12), (0, u "java/util/ImmutableCollections$ListN"), (0, u "elements"), (0, u "[Ljava/lang/Object;"), (0, .fieldref 8 14), (0, .nameAndType 15 16), (0, u "allowNulls"), (0, u "Z"), (42, .class_ 60), (0, u "java/io/Serializable"), (4, u "([Ljava/lang/Object;Z)V"), (11, u "size"), (0, u "()I"), (0, u "get"), (0, u "(I)Ljava/lang/Object;"), (33, .class_ 115), (0, u "java/util/ImmutableCollections")] 3

def k29c0 : Code := { maxStack := 2, maxLocals := 3, code := jdk_45_method_1_code, exceptionTable := #[], attributes := #[] }
def k29m0 : Method := { name := "<init>", desc := "([Ljava/lang/Object;Z)V", sig := { parameters := [(.array (.object "java/lang/Object")), .boolean], returnType := none }, accessFlags := 2, code := some k29c0 }
def k29c1 : Code := { maxStack := 1, maxLocals := 1, code := jdk_45_method_3_code, exceptionTable := #[], attributes := #[] }
def k29m1 : Method := { name := "size", desc := "()I", sig := { parameters := [], returnType := some .int }, accessFlags := 1, code := some k29c1 }
def k29c2 : Code := { maxStack := 2, maxLocals := 2, code := jdk_45_method_4_code, exceptionTable := #[], attributes := #[] }
def k29m2 : Method := { name := "get", desc := "(I)Ljava/lang/Object;", sig := { parameters := [.int], returnType := some (.object "java/lang/Object") }, accessFlags := 1, code := some k29c2 }
/-- java/util/ImmutableCollections$ListN -/
def k29 : Class := { plain "java/util/ImmutableCollections$ListN" (some 27) with
  accessFlags := 48
  interfaces := #[2]
  cf := some (fileOf pool29 8 #[.nestHost 114] #[{ accessFlags := 2, nameIndex := 5, descriptorIndex := 65, attributes := #[] }, { accessFlags := 1, nameIndex := 77, descriptorIndex := 78, attributes := #[] }, { accessFlags := 1, nameIndex := 79, descriptorIndex := 80, attributes := #[] }] 48 2 #[59] #[{ accessFlags := 18, nameIndex := 11, descriptorIndex := 12, attributes := #[] }, { accessFlags := 18, nameIndex := 15, descriptorIndex := 16, attributes := #[] }])
  fields := #[{ name := "elements", type := (.array (.object "java/lang/Object")), accessFlags := 18, slot := 0, constantValue := 0 }, { name := "allowNulls", type := .boolean, accessFlags := 18, slot := 1, constantValue := 0 }]
  methods := #[k29m0, k29m1, k29m2]
  instanceTypes := #[(.array (.object "java/lang/Object")), .boolean]
  staticTypes := #[]
  resolved := Array.replicate 119 none
  statics := none }

def pool30 : Array CpInfo := pool [(2, .class_ 4), (1, u "java/lang/Object"), (0, u "<init>"), (0, u "()V"), (17, .class_ 26), (1, u "jdk/internal/util/Preconditions"), (20, u "checkFromToIndex"), (7, .class_ 56), (0, u "jdk/internal/util/Preconditions$4"), (57, .class_ 115), (0, u "jdk/internal/util/Preconditions$1"), (7, u "SIOOBE_FORMATTER"), (0, u "Ljava/util/function/BiFunction;"), (0, .class_ 126), (0, u "jdk/internal/util/Preconditions$2"), (3, u "AIOOBE_FORMATTER"), (0, .class_ 132), (0, u "jdk/internal/util/Preconditions$3"), (3, u "IOOBE_FORMATTER"), (46, u "(IIILjava/util/function/BiFunction;)I")] 10

def k30m0 : Method := { name := "<init>", desc := "()V", sig := { parameters := [], returnType := none }, accessFlags := 1, code := none }
def k30c1 : Code := { maxStack := 4, maxLocals := 4, code := jdk_41_method_12_code, exceptionTable := #[], attributes := #[] }
def k30m1 : Method := { name := "checkFromToIndex", desc := "(IIILjava/util/function/BiFunction;)I", sig := { parameters := [.int, .int, .int, (.object "java/util/function/BiFunction")], returnType := some .int }, accessFlags := 9, code := some k30c1 }
/-- jdk/internal/util/Preconditions -/
def k30 : Class := { plain "jdk/internal/util/Preconditions" (some 0) with
  accessFlags := 33
  interfaces := #[]
  cf := some (fileOf pool30 24 #[.nestMembers #[55, 131, 125, 114]] #[{ accessFlags := 1, nameIndex := 5, descriptorIndex := 6, attributes := #[] }, { accessFlags := 9, nameIndex := 47, descriptorIndex := 183, attributes := #[] }] 33 2 #[] #[{ accessFlags := 25, nameIndex := 123, descriptorIndex := 124, attributes := #[] }, { accessFlags := 25, nameIndex := 130, descriptorIndex := 124, attributes := #[] }, { accessFlags := 25, nameIndex := 136, descriptorIndex := 124, attributes := #[] }])
  fields := #[{ name := "SIOOBE_FORMATTER", type := (.object "java/util/function/BiFunction"), accessFlags := 25, slot := 0, constantValue := 0 }, { name := "AIOOBE_FORMATTER", type := (.object "java/util/function/BiFunction"), accessFlags := 25, slot := 1, constantValue := 0 }, { name := "IOOBE_FORMATTER", type := (.object "java/util/function/BiFunction"), accessFlags := 25, slot := 2, constantValue := 0 }]
  methods := #[k30m0, k30m1]
  instanceTypes := #[]
  staticTypes := #[(.object "java/util/function/BiFunction"), (.object "java/util/function/BiFunction"), (.object "java/util/function/BiFunction")]
  resolved := Array.replicate 194 none
  statics := some 4 }

def pool31 : Array CpInfo := pool [(1, .class_ 2), (0, u "java/lang/Math"), (1, .class_ 6), (1, u "java/lang/Object"), (0, u "<init>"), (0, u "()V"), (89, .class_ 100), (1, u "java/lang/Math$RandomNumberGeneratorHolder"), (71, u "negativeZeroFloatBits"), (0, u "J"), (2, u "negativeZeroDoubleBits"), (21, u "max"), (2, u "min"), (43, u "$assertionsDisabled"), (0, u "Z"), (88, u "(II)I"), (2, u "twoToTheDoubleScaleDown"), (0, u "D"), (4, u "twoToTheDoubleScaleUp"), (9, u "E"), (3, u "PI"), (2, u "TAU"), (2, u "DEGREES_TO_RADIANS"), (0, u "RADIANS_TO_DEGREES")] 94

def k31m0 : Method := { name := "<init>", desc := "()V", sig := { parameters := [], returnType := none }, accessFlags := 2, code := none }
def k31c1 : Code := { maxStack := 2, maxLocals := 2, code := jdk_29_method_65_code, exceptionTable := #[], attributes := #[] }
def k31m1 : Method := { name := "max", desc := "(II)I", sig := { parameters := [.int, .int], returnType := some .int }, accessFlags := 9, code := some k31c1 }
def k31c2 : Code := { maxStack := 2, maxLocals := 2, code := jdk_29_method_69_code, exceptionTable := #[], attributes := #[] }
def k31m2 : Method := { name := "min", desc := "(II)I", sig := { parameters := [.int, .int], returnType := some .int }, accessFlags := 9, code := some k31c2 }
/-- java/lang/Math -/
def k31 : Class := { plain "java/lang/Math" (some 0) with
  accessFlags := 49
  interfaces := #[]
  cf := some (fileOf pool31 1 #[.nestMembers #[98]] #[{ accessFlags := 2, nameIndex := 7, descriptorIndex := 8, attributes := #[] }, { accessFlags := 9, nameIndex := 198, descriptorIndex := 335, attributes := #[] }, { accessFlags := 9, nameIndex := 201, descriptorIndex := 335, attributes := #[] }] 49 4 #[] #[{ accessFlags := 25, nameIndex := 354, descriptorIndex := 339, attributes := #[] }, { accessFlags := 25, nameIndex := 358, descriptorIndex := 339, attributes := #[] }, { accessFlags := 25, nameIndex := 361, descriptorIndex := 339, attributes := #[] }, { accessFlags := 26, nameIndex := 364, descriptorIndex := 339, attributes := #[] }, { accessFlags := 26, nameIndex := 365, descriptorIndex := 339, attributes := #[] }, { accessFlags := 26, nameIndex := 172, descriptorIndex := 173, attributes := #[] }, { accessFlags := 26, nameIndex := 176, descriptorIndex := 173, attributes := #[] }, { accessFlags := 8, nameIndex := 344, descriptorIndex := 339, attributes := #[] }, { accessFlags := 8, nameIndex := 338, descriptorIndex := 339, attributes := #[] }, { accessFlags := 4120, nameIndex := 245, descriptorIndex := 246, attributes := #[] }])
  fields := #[{ name := "E", type := .double, accessFlags := 25, slot := 0, constantValue := 0 }, { name := "PI", type := .double, accessFlags := 25, slot := 1, constantValue := 0 }, { name := "TAU", type := .double, accessFlags := 25, slot := 2, constantValue := 0 }, { name := "DEGREES_TO_RADIANS", type := .double, accessFlags := 26, slot := 3, constantValue := 0 }, { name := "RADIANS_TO_DEGREES", type := .double, accessFlags := 26, slot := 4, constantValue := 0 }, { name := "negativeZeroFloatBits", type := .long, accessFlags := 26, slot := 5, constantValue := 0 }, { name := "negativeZeroDoubleBits", type := .long, accessFlags := 26, slot := 6, constantValue := 0 }, { name := "twoToTheDoubleScaleUp", type := .double, accessFlags := 8, slot := 7, constantValue := 0 }, { name := "twoToTheDoubleScaleDown", type := .double, accessFlags := 8, slot := 8, constantValue := 0 }, { name := "$assertionsDisabled", type := .boolean, accessFlags := 4120, slot := 9, constantValue := 0 }]
  methods := #[k31m0, k31m1, k31m2]
  instanceTypes := #[]
  staticTypes := #[.double, .double, .double, .double, .double, .long, .long, .double, .double, .boolean]
  resolved := Array.replicate 460 none
  statics := none }

def pool32 : Array CpInfo := pool [(2, .class_ 4), (1, u "java/lang/Object"), (0, u "<init>"), (0, u "()V"), (7, .class_ 16), (1, u "java/util/Arrays"), (57, .class_ 76), (1, u "java/util/Arrays$NaturalOrder"), (9, .methodref 2 87), (0, .nameAndType 88 89), (0, u "getClass"), (0, u "()Ljava/lang/Class;"), (20, .class_ 111), (0, u "[Ljava/lang/Object;"), (1, .class_ 115), (1, u "java/util/Arrays$LegacyMergeSort"), (1, u "Z"), (32, .methodref 151 152), (0, .class_ 153), (0, .nameAndType 154 155), (0, u "java/lang/System"), (0, u "arraycopy"), (0, u "(Ljava/lang/Object;ILjava/lang/Object;II)V"), (144, .methodref 14 301), (0, .nameAndType 302 303), (0, u "copyOf"), (0, u "([Ljava/lang/Object;ILjava/lang/Class;)[Ljava/lang/Object;"), (0, .methodref 305 306), (0, .class_ 307), (0, .nameAndType 308 309), (0, u "java/lang/Math"), (0, u "min"), (0, u "(II)I"), (65, .class_ 376), (0, u "java/util/Arrays$ArrayList"), (68, u "$assertionsDisabled"), (269, u "MIN_ARRAY_SORT_GRAN"), (0, u "I"), (2, u "INSERTIONSORT_THRESHOLD"), (140, u "([Ljava/lang/Object;I)[Ljava/lang/Object;"), (114, .class_ 976), (0, u "java/util/Arrays$ArrayItr")] 52

def k32m0 : Method := { name := "<init>", desc := "()V", sig := { parameters := [], returnType := none }, accessFlags := 2, code := none }
def k32c1 : Code := { maxStack := 3, maxLocals := 2, code := jdk_65_method_119_code, exceptionTable := #[], attributes := #[] }
def k32m1 : Method := { name := "copyOf", desc := "([Ljava/lang/Object;I)[Ljava/lang/Object;", sig := { parameters := [(.array (.object "java/lang/Object")), .int], returnType := some (.array (.object "java/lang/Object")) }, accessFlags := 9, code := some k32c1 }
def k32c2 : Code := { maxStack := 6, maxLocals := 4, code := jdk_65_method_120_code, exceptionTable := #[], attributes := #[] }
def k32m2 : Method := { name := "copyOf", desc := "([Ljava/lang/Object;ILjava/lang/Class;)[Ljava/lang/Object;", sig := { parameters := [(.array (.object "java/lang/Object")), .int, (.object "java/lang/Class")], returnType := some (.array (.object "java/lang/Object")) }, accessFlags := 9, code := some k32c2 }
/-- java/util/Arrays -/
def k32 : Class := { plain "java/util/Arrays" (some 0) with
  accessFlags := 49
  interfaces := #[]
  cf := some (fileOf pool32 14 #[.nestMembers #[975, 375, 113, 74]] #[{ accessFlags := 2, nameIndex := 5, descriptorIndex := 6, attributes := #[] }, { accessFlags := 9, nameIndex := 302, descriptorIndex := 860, attributes := #[] }, { accessFlags := 9, nameIndex := 302, descriptorIndex := 303, attributes := #[] }] 49 2 #[] #[{ accessFlags := 26, nameIndex := 715, descriptorIndex := 716, attributes := #[] }, { accessFlags := 26, nameIndex := 719, descriptorIndex := 716, attributes := #[] }, { accessFlags := 4120, nameIndex := 445, descriptorIndex := 117, attributes := #[] }])
  fields := #[{ name := "MIN_ARRAY_SORT_GRAN", type := .int, accessFlags := 26, slot := 0, constantValue := 0 }, { name := "INSERTIONSORT_THRESHOLD", type := .int, accessFlags := 26, slot := 1, constantValue := 0 }, { name := "$assertionsDisabled", type := .boolean, accessFlags := 4120, slot := 2, constantValue := 0 }]
  methods := #[k32m0, k32m1, k32m2]
  instanceTypes := #[]
  staticTypes := #[.int, .int, .boolean]
  resolved := Array.replicate 1029 none
  statics := none }

def pool33 : Array CpInfo := pool [(2, .class_ 4), (1, u "java/lang/Object"), (0, u "<init>"), (0, u "()V"), (1, .class_ 10), (1, u "java/lang/System"), (0, u "allowSecurityManager"), (0, u "I"), (16, u "cons"), (0, u "Ljava/io/Console;"), (77, .class_ 110), (1, u "java/lang/System$CallersHolder"), (43, u "initialErrStream"), (0, u "Ljava/io/PrintStream;"), (19, u "security"), (0, u "Ljava/lang/SecurityManager;"), (31, .class_ 209), (0, u "java/lang/System$1"), (7, u "props"), (0, u "Ljava/util/Properties;"), (2, u "lineSeparator"), (0, u "Ljava/lang/String;"), (96, .class_ 321), (1, u "java/lang/System$LoggerFinder"), (5, .class_ 328), (0, u "java/lang/System$Logger"), (67, u "err"), (2, u "out"), (91, u "notSupportedJnuEncoding"), (15, u "in"), (17, u "initialIn"), (0, u "Ljava/io/InputStream;"), (35, u "bootLayer"), (0, u "Ljava/lang/ModuleLayer;"), (99, .class_ 664), (0, u "java/lang/System$2"), (9, u "NEVER"), (2, u "MAYBE"), (49, u "arraycopy"), (0, u "(Ljava/lang/Object;ILjava/lang/Object;II)V"), (72, .class_ 802), (0, u "java/lang/System$Logger$Level")] 31

def k33m0 : Method := { name := "<init>", desc := "()V", sig := { parameters := [], returnType := none }, accessFlags := 2, code := none }
def k33m1 : Method := { name := "arraycopy", desc := "(Ljava/lang/Object;ILjava/lang/Object;II)V", sig := { parameters := [(.object "java/lang/Object"), .int, (.object "java/lang/Object"), .int, .int], returnType := none }, accessFlags := 265, code := none }
/-- java/lang/System -/
def k33 : Class := { plain "java/lang/System" (some 0) with
  accessFlags := 49
  interfaces := #[]
  cf := some (fileOf pool33 8 #[.nestMembers #[319, 327, 801, 108, 663, 208]] #[{ accessFlags := 2, nameIndex := 5, descriptorIndex := 6, attributes := #[] }, { accessFlags := 265, nameIndex := 727, descriptorIndex := 728, attributes := #[] }] 49 2 #[] #[{ accessFlags := 25, nameIndex := 507, descriptorIndex := 526, attributes := #[] }, { accessFlags := 25, nameIndex := 399, descriptorIndex := 155, attributes := #[] }, { accessFlags := 25, nameIndex := 396, descriptorIndex := 155, attributes := #[] }, { accessFlags := 10, nameIndex := 525, descriptorIndex := 526, attributes := #[] }, { accessFlags := 26, nameIndex := 674, descriptorIndex := 12, attributes := #[] }, { accessFlags := 26, nameIndex := 677, descriptorIndex := 12, attributes := #[] }, { accessFlags := 10, nameIndex := 11, descriptorIndex := 12, attributes := #[] }, { accessFlags := 74, nameIndex := 175, descriptorIndex := 176, attributes := #[] }, { accessFlags := 10, nameIndex := 491, descriptorIndex := 222, attributes := #[] }, { accessFlags := 74, nameIndex := 29, descriptorIndex := 30, attributes := #[] }, { accessFlags := 74, nameIndex := 154, descriptorIndex := 155, attributes := #[] }, { accessFlags := 10, nameIndex := 217, descriptorIndex := 218, attributes := #[] }, { accessFlags := 10, nameIndex := 221, descriptorIndex := 222, attributes := #[] }, { accessFlags := 8, nameIndex := 562, descriptorIndex := 563, attributes := #[] }])
  fields := #[{ name := "in", type := (.object "java/io/InputStream"), accessFlags := 25, slot := 0, constantValue := 0 }, { name := "out", type := (.object "java/io/PrintStream"), accessFlags := 25, slot := 1, constantValue := 0 }, { name := "err", type := (.object "java/io/PrintStream"), accessFlags := 25, slot := 2, constantValue := 0 }, { name := "initialIn", type := (.object "java/io/InputStream"), accessFlags := 10, slot := 3, constantValue := 0 }, { name := "NEVER", type := .int, accessFlags := 26, slot := 4, constantValue := 0 }, { name := "MAYBE", type := .int, accessFlags := 26, slot := 5, constantValue := 0 }, { name := "allowSecurityManager", type := .int, accessFlags := 10, slot := 6, constantValue := 0 }, { name := "security", type := (.object "java/lang/SecurityManager"), accessFlags := 74, slot := 7, constantValue := 0 }, { name := "notSupportedJnuEncoding", type := (.object "java/lang/String"), accessFlags := 10, slot := 8, constantValue := 0 }, { name := "cons", type := (.object "java/io/Console"), accessFlags := 74, slot := 9, constantValue := 0 }, { name := "initialErrStream", type := (.object "java/io/PrintStream"), accessFlags := 74, slot := 10, constantValue := 0 }, { name := "props", type := (.object "java/util/Properties"), accessFlags := 10, slot := 11, constantValue := 0 }, { name := "lineSeparator", type := (.object "java/lang/String"), accessFlags := 10, slot := 12, constantValue := 0 }, { name := "bootLayer", type := (.object "java/lang/ModuleLayer"), accessFlags := 8, slot := 13, constantValue := 0 }]
  methods := #[k33m0, k33m1]
  instanceTypes := #[]
  staticTypes := #[(.object "java/io/InputStream"), (.object "java/io/PrintStream"), (.object "java/io/PrintStream"), (.object "java/io/InputStream"), .int, .int, .int, (.object "java/lang/SecurityManager"), (.object "java/lang/String"), (.object "java/io/Console"), (.object "java/io/PrintStream"), (.object "java/util/Properties"), (.object "java/lang/String"), (.object "java/lang/ModuleLayer")]
  resolved := Array.replicate 834 none
  statics := none }

def pool34 : Array CpInfo := pool [(9, u "<init>"), (6, .class_ 18), (1, u "java/lang/Object"), (0, u "()V"), (1, .class_ 23), (1, u "jdk/internal/util/ArraysSupport"), (0, u "LOG2_ARRAY_LONG_INDEX_SCALE"), (0, u "I"), (2, u "U"), (0, u "Ljdk/internal/misc/Unsafe;"), (8, u "BIG_ENDIAN"), (0, u "Z"), (8, u "LOG2_BYTE_BIT_SIZE"), (4, u "LOG2_ARRAY_INT_INDEX_SCALE"), (54, u "JLA"), (0, u "Ljdk/internal/access/JavaLangAccess;"), (11, u "LOG2_ARRAY_BOOLEAN_INDEX_SCALE"), (9, u "LOG2_ARRAY_BYTE_INDEX_SCALE"), (5, u "LOG2_ARRAY_CHAR_INDEX_SCALE"), (5, u "LOG2_ARRAY_SHORT_INDEX_SCALE"), (18, u "LOG2_ARRAY_FLOAT_INDEX_SCALE"), (24, u "LOG2_ARRAY_DOUBLE_INDEX_SCALE"), (89, u "T_BOOLEAN"), (2, u "T_CHAR"), (1, u "T_FLOAT"), (1, u "T_DOUBLE"), (1, u "T_BYTE"), (1, u "T_SHORT"), (1, u "T_INT"), (1, u "T_LONG"), (1, u "SOFT_MAX_ARRAY_LENGTH")] 83

def k34m0 : Method := { name := "<init>", desc := "()V", sig := { parameters := [], returnType := none }, accessFlags := 2, code := none }
/-- jdk/internal/util/ArraysSupport -/
def k34 : Class := { plain "jdk/internal/util/ArraysSupport" (some 0) with
  accessFlags := 33
  interfaces := #[]
  cf := some (fileOf pool34 21 #[] #[{ accessFlags := 2, nameIndex := 9, descriptorIndex := 19, attributes := #[] }] 33 16 #[] #[{ accessFlags := 24, nameIndex := 28, descriptorIndex := 29, attributes := #[] }, { accessFlags := 26, nameIndex := 38, descriptorIndex := 39, attributes := #[] }, { accessFlags := 25, nameIndex := 121, descriptorIndex := 25, attributes := #[] }, { accessFlags := 25, nameIndex := 131, descriptorIndex := 25, attributes := #[] }, { accessFlags := 25, nameIndex := 137, descriptorIndex := 25, attributes := #[] }, { accessFlags := 25, nameIndex := 143, descriptorIndex := 25, attributes := #[] }, { accessFlags := 25, nameIndex := 53, descriptorIndex := 25, attributes := #[] }, { accessFlags := 25, nameIndex := 24, descriptorIndex := 25, attributes := #[] }, { accessFlags := 25, nameIndex := 162, descriptorIndex := 25, attributes := #[] }, { accessFlags := 25, nameIndex := 187, descriptorIndex := 25, attributes := #[] }, { accessFlags := 26, nameIndex := 48, descriptorIndex := 25, attributes := #[] }, { accessFlags := 25, nameIndex := 277, descriptorIndex := 25, attributes := #[] }, { accessFlags := 25, nameIndex := 280, descriptorIndex := 25, attributes := #[] }, { accessFlags := 25, nameIndex := 282, descriptorIndex := 25, attributes := #[] }, { accessFlags := 25, nameIndex := 284, descriptorIndex := 25, attributes := #[] }, { accessFlags := 25, nameIndex := 286, descriptorIndex := 25, attributes := #[] }, { accessFlags := 25, nameIndex := 288, descriptorIndex := 25, attributes := #[] }, { accessFlags := 25, nameIndex := 290, descriptorIndex := 25, attributes := #[] }, { accessFlags := 25, nameIndex := 292, descriptorIndex := 25, attributes := #[] }, { accessFlags := 26, nameIndex := 108, descriptorIndex := 109, attributes := #[] }, { accessFlags := 25, nameIndex := 294, descriptorIndex := 25, attributes := #[] }])
  fields := #[{ name := "U", type := (.object "jdk/internal/misc/Unsafe"), accessFlags := 24, slot := 0, constantValue := 0 }, { name := "BIG_ENDIAN", type := .boolean, accessFlags := 26, slot := 1, constantValue := 0 }, { name := "LOG2_ARRAY_BOOLEAN_INDEX_SCALE", type := .int, accessFlags := 25, slot := 2, constantValue := 0 }, { name := "LOG2_ARRAY_BYTE_INDEX_SCALE", type := .int, accessFlags := 25, slot := 3, constantValue := 0 }, { name := "LOG2_ARRAY_CHAR_INDEX_SCALE", type := .int, accessFlags := 25, slot := 4, constantValue := 0 }, { name := "LOG2_ARRAY_SHORT_INDEX_SCALE", type := .int, accessFlags := 25, slot := 5, constantValue := 0 }, { name := "LOG2_ARRAY_INT_INDEX_SCALE", type := .int, accessFlags := 25, slot := 6, constantValue := 0 }, { name := "LOG2_ARRAY_LONG_INDEX_SCALE", type := .int, accessFlags := 25, slot := 7, constantValue := 0 }, { name := "LOG2_ARRAY_FLOAT_INDEX_SCALE", type := .int, accessFlags := 25, slot := 8, constantValue := 0 }, { name := "LOG2_ARRAY_DOUBLE_INDEX_SCALE", type := .int, accessFlags := 25, slot := 9, constantValue := 0 }, { name := "LOG2_BYTE_BIT_SIZE", type := .int, accessFlags := 26, slot := 10, constantValue := 0 }, { name := "T_BOOLEAN", type := .int, accessFlags := 25, slot := 11, constantValue := 0 }, { name := "T_CHAR", type := .int, accessFlags := 25, slot := 12, constantValue := 0 }, { name := "T_FLOAT", type := .int, accessFlags := 25, slot := 13, constantValue := 0 }, { name := "T_DOUBLE", type := .int, accessFlags := 25, slot := 14, constantValue := 0 }, { name := "T_BYTE", type := .int, accessFlags := 25, slot := 15, constantValue := 0 }, { name := "T_SHORT", type := .int, accessFlags := 25, slot := 16, constantValue := 0 }, { name := "T_INT", type := .int, accessFlags := 25, slot := 17, constantValue := 0 }, { name := "T_LONG", type := .int, accessFlags := 25, slot := 18, constantValue := 0 }, { name := "JLA", type := (.object "jdk/internal/access/JavaLangAccess"), accessFlags := 26, slot := 19, constantValue := 0 }, { name := "SOFT_MAX_ARRAY_LENGTH", type := .int, accessFlags := 25, slot := 20, constantValue := 0 }]
  methods := #[k34m0]
  instanceTypes := #[]
  staticTypes := #[(.object "jdk/internal/misc/Unsafe"), .boolean, .int, .int, .int, .int, .int, .int, .int, .int, .int, .int, .int, .int, .int, .int, .int, .int, .int, (.object "jdk/internal/access/JavaLangAccess"), .int]
  resolved := Array.replicate 378 none
  statics := none }

def pool35 : Array CpInfo := pool [(1, u "java/lang/Class"), (0, .class_ 1), (0, u "java/lang/Object"), (0, .class_ 3)] 3

/-- java/lang/Class -/
def k35 : Class := { plain "java/lang/Class" (some 0) with
  accessFlags := 49
  interfaces := #[]
  cf := some (fileOf pool35 2 #[] #[] 49 4 #[] #[])
  fields := #[]
  methods := #[]
  instanceTypes := #[]
  staticTypes := #[]
  resolved := Array.replicate 8 none
  statics := none }

/-- the primitive byte -/
def k36 : Class := { plain "byte" none with kind := .primitive 'B', accessFlags := 0x411 }
/-- [B -/
def k37 : Class := { plain "[B" (some 0) with kind := .array 36 .byte, interfaces := #[22, 2], accessFlags := 1041 }

/-- the primitive char -/
def k38 : Class := { plain "char" none with kind := .primitive 'C', accessFlags := 0x411 }
/-- [C -/
def k39 : Class := { plain "[C" (some 0) with kind := .array 38 .char, interfaces := #[22, 2], accessFlags := 1041 }

/-- the primitive int -/
def k40 : Class := { plain "int" none with kind := .primitive 'I', accessFlags := 0x411 }
/-- [I -/
def k41 : Class := { plain "[I" (some 0) with kind := .array 40 .int, interfaces := #[22, 2], accessFlags := 1041 }

/-- [Ljava/lang/Object; -/
def k42 : Class := { plain "[Ljava/lang/Object;" (some 0) with kind := .array 0 (.object "java/lang/Object"), interfaces := #[22, 2], accessFlags := 1041, mirror := some 5 }

def heap : Heap := #[{ cls := 7, slots := #[.long 0, .int 1, .null, .int 0, .null, .int 0, .int 0], vm := .statics 7 },
  { cls := 11, slots := #[.ref 7, .ref 8, .ref 9, .null], vm := .statics 11 },
  { cls := 23, slots := #[.long 0, .int 0, .ref 11, .ref 12], vm := .statics 23 },
  { cls := 25, slots := #[.long 0, .int 0, .null, .ref 13, .ref 10, .null, .null, .null, .int 0, .int 1], vm := .statics 25 },
  { cls := 30, slots := #[.null, .null, .null], vm := .statics 30 },
  { cls := 35, slots := #[], vm := .mirror 42 },
  { cls := 42, slots := #[], vm := .none },
  { cls := 11, slots := #[.null, .int 0, .int 0], vm := .none },
  { cls := 11, slots := #[.null, .int 0, .int 0], vm := .none },
  { cls := 11, slots := #[.null, .int 0, .int 0], vm := .none },
  { cls := 29, slots := #[.ref 6, .int 0], vm := .none },
  { cls := 42, slots := #[], vm := .none },
  { cls := 42, slots := #[], vm := .none },
  { cls := 0, slots := #[], vm := .none }]
def classes : Array Class := #[k0, k1, k2, k3, k4, k5, k6, k7, k8, k9, k10, k11, k12, k13, k14, k15, k16, k17, k18, k19, k20, k21, k22, k23, k24, k25, k26, k27, k28, k29, k30, k31, k32, k33, k34, k35, k36, k37, k38, k39, k40, k41, k42]
def interned : List (Array UInt16 × Addr) := []
def slotsUsed : Nat := 39
def theMethod : MethodId := ⟨1, 1⟩
def args0 : Array Value := #[.int 1, .int 2, .int 3, .int 4, .int 5, .int 6]
def aboutOver (below : List Frame) : State where
  vm := { classes := classes, interned := interned.toArray }
  heap := heap
  slotsUsed := slotsUsed
  threads := #[{ frames := .invoking theMethod args0 :: below }]
def below0 : List Frame := [.native { method := ⟨0, 0⟩, args := #[] }]
def about1 : State := aboutOver below0
def p0 : Program := .bare "" "" ""
def e0 : Env := launch0.env 0 0 0
theorem w_frames : about1.frames = Frame.invoking theMethod args0 :: below0 := rfl
set_option maxRecDepth 65536 in
theorem w_args : argsFit about1.vm theMethod args0 = true := by decide +kernel
set_option maxRecDepth 65536 in
theorem w_heap : heapFits about1 = true := by decide +kernel
set_option maxRecDepth 65536 in
theorem w_runnable : about1.curStatus? = some .runnable := by decide +kernel
set_option maxRecDepth 65536 in
theorem w_alone : about1.alone = true := by decide +kernel
set_option maxRecDepth 65536 in
theorem w_named : about1.methodNamed? x = some theMethod := by decide +kernel
set_option maxRecDepth 65536 in
theorem w_hears : about1.hears theMethod below0 = true := by decide +kernel
set_option maxRecDepth 65536 in
theorem w_ripe : about1.ripe theMethod args0 below0 = true := by decide +kernel
theorem w_running : about1.status = .running := rfl
set_option maxRecDepth 65536 in
theorem w_room : about1.hasRoom e0.platform room_1 = true :=
  launch0.hasRoom_least _ room_1 (by decide +kernel) (by decide +kernel) (by decide +kernel) (by decide +kernel) (by decide +kernel) (by decide +kernel)
theorem allAtoms_all (ts : List Jvm.Cond) (a : Array Jvm.Value) (st : Jvm.State) : (allAtoms ts).before a st = ts.all (fun c => c.before a st) := by
  induction ts with
  | nil => rfl
  | cons c t ih =>
    show (Jvm.Cond.and c (allAtoms t)).before a st = _
    rw [Jvm.Cond.before_and, ih, List.all_cons]
def words1 : List Jvm.Cond := Jvm.Cond.code x code maxLocals ret :: tables_1
/-- a 'code' word, met by the world's own term for the bytes: nothing is compared byte by byte -/
theorem code_word {y : MethodName} {bytes : ByteArray} {mx : Nat} {rt : Option FieldType} {a : Array Value} {s : State} {m : MethodId} {meth : Method} {c : Code} (h1 : s.methodNamed? y = some m) (h2 : s.vm.method? m = some meth) (h3 : meth.code = some c) (h4 : c.code = bytes)
    (h5 : (c.maxLocals == mx && c.exceptionTable.isEmpty && decide (c.maxStack ≤ mostOperands) && decide (meth.sig.returnType = rt) && !meth.locks && decide (parseMethodDescriptor y.desc = some meth.sig)) = true) : (Jvm.Cond.code y bytes mx rt).before a s = true := by
  simp only [Bool.and_eq_true, beq_iff_eq, Bool.not_eq_true', decide_eq_true_eq] at h5
  obtain ⟨⟨⟨⟨⟨g1, g2⟩, g3⟩, g4⟩, g5⟩, g6⟩ := h5
  simp [Cond.before, Cond.holds, Cond.value, h1, h2, h3, h4, g1, g2, g3, g4, g5, g6]
def isCode : Jvm.Cond → Bool
  | .code _ _ _ _ => true
  | _ => false
theorem all_split {L : List Jvm.Cond} {P : Jvm.Cond → Bool} (h1 : L.all (fun c => isCode c || P c) = true) (h2 : ∀ c ∈ L.filter isCode, P c = true) : L.all P = true := by
  refine List.all_eq_true.mpr fun c hc => ?_
  have h := List.all_eq_true.mp h1 c hc
  rcases Bool.eq_false_or_eq_true (isCode c) with hi | hi
  · exact h2 c (List.mem_filter.mpr ⟨hc, hi⟩)
  · simpa [hi] using h
set_option maxRecDepth 65536 in
theorem w_c0 : (Jvm.Cond.code x code maxLocals ret).before args0 about1 = true := code_word (m := ⟨1, 1⟩) (meth := k1m1) (c := k1c1) (by decide +kernel) rfl rfl rfl (by decide +kernel)
set_option maxRecDepth 65536 in
theorem w_c1 : (Jvm.Cond.code ({ cls := "com/example/liken/liken/core/TokenSliceHeldPinLaw", name := "tok", desc := "(I)Lcom/example/liken/liken/core/Token;" } : Jvm.MethodName) method_3_code (7 : Nat) (Option.some (Jvm.ClassFile.FieldType.object "com/example/liken/liken/core/Token"))).before args0 about1 = true := code_word (m := ⟨1, 2⟩) (meth := k1m2) (c := k1c2) (by decide +kernel) rfl rfl rfl (by decide +kernel)
set_option maxRecDepth 65536 in
theorem w_c2 : (Jvm.Cond.code ({ cls := "java/lang/String", name := "<init>", desc := "([C)V" } : Jvm.MethodName) jdk_42_method_3_code (2 : Nat) (Option.none : Option Jvm.ClassFile.FieldType)).before args0 about1 = true := code_word (m := ⟨7, 1⟩) (meth := k7m1) (c := k7c1) (by decide +kernel) rfl rfl rfl (by decide +kernel)
set_option maxRecDepth 65536 in
theorem w_c3 : (Jvm.Cond.code ({ cls := "java/lang/String", name := "<init>", desc := "([CIILjava/lang/Void;)V" } : Jvm.MethodName) jdk_42_method_149_code (6 : Nat) (Option.none : Option Jvm.ClassFile.FieldType)).before args0 about1 = true := code_word (m := ⟨7, 3⟩) (meth := k7m3) (c := k7c3) (by decide +kernel) rfl rfl rfl (by decide +kernel)
set_option maxRecDepth 65536 in
theorem w_c4 : (Jvm.Cond.code ({ cls := "java/lang/Object", name := "<init>", desc := "()V" } : Jvm.MethodName) object_method_1_code (1 : Nat) (Option.none : Option Jvm.ClassFile.FieldType)).before args0 about1 = true := code_word (m := ⟨0, 0⟩) (meth := k0m0) (c := k0c0) (by decide +kernel) rfl rfl rfl (by decide +kernel)
set_option maxRecDepth 65536 in
theorem w_c5 : (Jvm.Cond.code ({ cls := "java/lang/StringUTF16", name := "compress", desc := "([CII)[B" } : Jvm.MethodName) jdk_52_method_16_code (6 : Nat) (Option.some (Jvm.ClassFile.FieldType.array Jvm.ClassFile.FieldType.byte))).before args0 about1 = true := code_word (m := ⟨8, 2⟩) (meth := k8m2) (c := k8c2) (by decide +kernel) rfl rfl rfl (by decide +kernel)
set_option maxRecDepth 65536 in
theorem w_c6 : (Jvm.Cond.code ({ cls := "java/lang/StringUTF16", name := "compress", desc := "([CI[BII)I" } : Jvm.MethodName) jdk_52_method_21_code (7 : Nat) (Option.some Jvm.ClassFile.FieldType.int)).before args0 about1 = true := code_word (m := ⟨8, 3⟩) (meth := k8m3) (c := k8c3) (by decide +kernel) rfl rfl rfl (by decide +kernel)
set_option maxRecDepth 65536 in
theorem w_c7 : (Jvm.Cond.code ({ cls := "java/lang/StringUTF16", name := "coderFromArrayLen", desc := "([BI)B" } : Jvm.MethodName) jdk_52_method_15_code (2 : Nat) (Option.some Jvm.ClassFile.FieldType.byte)).before args0 about1 = true := code_word (m := ⟨8, 1⟩) (meth := k8m1) (c := k8c1) (by decide +kernel) rfl rfl rfl (by decide +kernel)
set_option maxRecDepth 65536 in
theorem w_c8 : (Jvm.Cond.code ({ cls := "java/lang/String", name := "valueOf", desc := "(C)Ljava/lang/String;" } : Jvm.MethodName) jdk_42_method_139_code (1 : Nat) (Option.some (Jvm.ClassFile.FieldType.object "java/lang/String"))).before args0 about1 = true := code_word (m := ⟨7, 2⟩) (meth := k7m2) (c := k7c2) (by decide +kernel) rfl rfl rfl (by decide +kernel)
set_option maxRecDepth 65536 in
theorem w_c9 : (Jvm.Cond.code ({ cls := "java/lang/StringLatin1", name := "canEncode", desc := "(C)Z" } : Jvm.MethodName) jdk_43_method_3_code (1 : Nat) (Option.some Jvm.ClassFile.FieldType.boolean)).before args0 about1 = true := code_word (m := ⟨9, 1⟩) (meth := k9m1) (c := k9c1) (by decide +kernel) rfl rfl rfl (by decide +kernel)
set_option maxRecDepth 65536 in
theorem w_c10 : (Jvm.Cond.code ({ cls := "java/lang/StringLatin1", name := "toBytes", desc := "(C)[B" } : Jvm.MethodName) jdk_43_method_46_code (1 : Nat) (Option.some (Jvm.ClassFile.FieldType.array Jvm.ClassFile.FieldType.byte))).before args0 about1 = true := code_word (m := ⟨9, 2⟩) (meth := k9m2) (c := k9c2) (by decide +kernel) rfl rfl rfl (by decide +kernel)
set_option maxRecDepth 65536 in
theorem w_c11 : (Jvm.Cond.code ({ cls := "java/lang/String", name := "<init>", desc := "([BB)V" } : Jvm.MethodName) jdk_42_method_151_code (3 : Nat) (Option.none : Option Jvm.ClassFile.FieldType)).before args0 about1 = true := code_word (m := ⟨7, 4⟩) (meth := k7m4) (c := k7c4) (by decide +kernel) rfl rfl rfl (by decide +kernel)
set_option maxRecDepth 65536 in
theorem w_c12 : (Jvm.Cond.code ({ cls := "com/example/liken/liken/core/Token", name := "<init>", desc := "(Ljava/lang/String;Ljava/lang/String;Lcom/example/liken/liken/core/Token$Abstraction;I)V" } : Jvm.MethodName) prog_43_method_1_code (5 : Nat) (Option.none : Option Jvm.ClassFile.FieldType)).before args0 about1 = true := code_word (m := ⟨13, 0⟩) (meth := k13m0) (c := k13c0) (by decide +kernel) rfl rfl rfl (by decide +kernel)
set_option maxRecDepth 65536 in
theorem w_c13 : (Jvm.Cond.code ({ cls := "java/lang/Record", name := "<init>", desc := "()V" } : Jvm.MethodName) jdk_30_method_1_code (1 : Nat) (Option.none : Option Jvm.ClassFile.FieldType)).before args0 about1 = true := code_word (m := ⟨12, 0⟩) (meth := k12m0) (c := k12c0) (by decide +kernel) rfl rfl rfl (by decide +kernel)
set_option maxRecDepth 65536 in
theorem w_c14 : (Jvm.Cond.code ({ cls := "java/util/Objects", name := "requireNonNull", desc := "(Ljava/lang/Object;Ljava/lang/String;)Ljava/lang/Object;" } : Jvm.MethodName) jdk_31_method_11_code (2 : Nat) (Option.some (Jvm.ClassFile.FieldType.object "java/lang/Object"))).before args0 about1 = true := code_word (m := ⟨14, 2⟩) (meth := k14m2) (c := k14c2) (by decide +kernel) rfl rfl rfl (by decide +kernel)
set_option maxRecDepth 65536 in
theorem w_c15 : (Jvm.Cond.code ({ cls := "java/util/ArrayList", name := "<init>", desc := "()V" } : Jvm.MethodName) jdk_38_method_2_code (1 : Nat) (Option.none : Option Jvm.ClassFile.FieldType)).before args0 about1 = true := code_word (m := ⟨23, 0⟩) (meth := k23m0) (c := k23c0) (by decide +kernel) rfl rfl rfl (by decide +kernel)
set_option maxRecDepth 65536 in
theorem w_c16 : (Jvm.Cond.code ({ cls := "java/util/AbstractList", name := "<init>", desc := "()V" } : Jvm.MethodName) jdk_39_method_1_code (1 : Nat) (Option.none : Option Jvm.ClassFile.FieldType)).before args0 about1 = true := code_word (m := ⟨20, 0⟩) (meth := k20m0) (c := k20c0) (by decide +kernel) rfl rfl rfl (by decide +kernel)
set_option maxRecDepth 65536 in
theorem w_c17 : (Jvm.Cond.code ({ cls := "java/util/AbstractCollection", name := "<init>", desc := "()V" } : Jvm.MethodName) jdk_22_method_1_code (1 : Nat) (Option.none : Option Jvm.ClassFile.FieldType)).before args0 about1 = true := code_word (m := ⟨17, 0⟩) (meth := k17m0) (c := k17c0) (by decide +kernel) rfl rfl rfl (by decide +kernel)
set_option maxRecDepth 65536 in
theorem w_c18 : (Jvm.Cond.code ({ cls := "com/example/liken/liken/core/TokenSlice", name := "held", desc := "(Ljava/util/List;)Ljava/util/List;" } : Jvm.MethodName) prog_45_method_4_code (2 : Nat) (Option.some (Jvm.ClassFile.FieldType.object "java/util/List"))).before args0 about1 = true := code_word (m := ⟨24, 2⟩) (meth := k24m2) (c := k24c2) (by decide +kernel) rfl rfl rfl (by decide +kernel)
set_option maxRecDepth 65536 in
theorem w_c19 : (Jvm.Cond.code ({ cls := "com/example/liken/liken/core/TokenSlice", name := "of", desc := "(Ljava/util/List;)Lcom/example/liken/liken/core/TokenSlice;" } : Jvm.MethodName) prog_45_method_2_code (2 : Nat) (Option.some (Jvm.ClassFile.FieldType.object "com/example/liken/liken/core/TokenSlice"))).before args0 about1 = true := code_word (m := ⟨24, 1⟩) (meth := k24m1) (c := k24c1) (by decide +kernel) rfl rfl rfl (by decide +kernel)
set_option maxRecDepth 65536 in
theorem w_c20 : (Jvm.Cond.code ({ cls := "java/util/List", name := "copyOf", desc := "(Ljava/util/Collection;)Ljava/util/List;" } : Jvm.MethodName) jdk_40_method_48_code (1 : Nat) (Option.some (Jvm.ClassFile.FieldType.object "java/util/List"))).before args0 about1 = true := code_word (m := ⟨19, 4⟩) (meth := k19m4) (c := k19c4) (by decide +kernel) rfl rfl rfl (by decide +kernel)
set_option maxRecDepth 65536 in
theorem w_c21 : (Jvm.Cond.code ({ cls := "java/util/ImmutableCollections", name := "listCopy", desc := "(Ljava/util/Collection;)Ljava/util/List;" } : Jvm.MethodName) jdk_56_method_3_code (2 : Nat) (Option.some (Jvm.ClassFile.FieldType.object "java/util/List"))).before args0 about1 = true := code_word (m := ⟨25, 1⟩) (meth := k25m1) (c := k25c1) (by decide +kernel) rfl rfl rfl (by decide +kernel)
set_option maxRecDepth 65536 in
theorem w_c22 : (Jvm.Cond.code ({ cls := "java/util/ArrayList", name := "isEmpty", desc := "()Z" } : Jvm.MethodName) jdk_38_method_9_code (1 : Nat) (Option.some Jvm.ClassFile.FieldType.boolean)).before args0 about1 = true := code_word (m := ⟨23, 3⟩) (meth := k23m3) (c := k23c3) (by decide +kernel) rfl rfl rfl (by decide +kernel)
set_option maxRecDepth 65536 in
theorem w_c23 : (Jvm.Cond.code ({ cls := "java/util/List", name := "of", desc := "()Ljava/util/List;" } : Jvm.MethodName) jdk_40_method_36_code (0 : Nat) (Option.some (Jvm.ClassFile.FieldType.object "java/util/List"))).before args0 about1 = true := code_word (m := ⟨19, 2⟩) (meth := k19m2) (c := k19c2) (by decide +kernel) rfl rfl rfl (by decide +kernel)
set_option maxRecDepth 65536 in
theorem w_c24 : (Jvm.Cond.code ({ cls := "java/util/ImmutableCollections$ListN", name := "size", desc := "()I" } : Jvm.MethodName) jdk_45_method_3_code (1 : Nat) (Option.some Jvm.ClassFile.FieldType.int)).before args0 about1 = true := code_word (m := ⟨29, 1⟩) (meth := k29m1) (c := k29c1) (by decide +kernel) rfl rfl rfl (by decide +kernel)
set_option maxRecDepth 65536 in
theorem w_c25 : (Jvm.Cond.code ({ cls := "com/example/liken/liken/core/TokenSlice", name := "<init>", desc := "(Ljava/util/List;II)V" } : Jvm.MethodName) prog_45_method_1_code (4 : Nat) (Option.none : Option Jvm.ClassFile.FieldType)).before args0 about1 = true := code_word (m := ⟨24, 0⟩) (meth := k24m0) (c := k24c0) (by decide +kernel) rfl rfl rfl (by decide +kernel)
set_option maxRecDepth 65536 in
theorem w_c26 : (Jvm.Cond.code ({ cls := "com/example/liken/liken/core/TokenSlice", name := "subList", desc := "(II)Lcom/example/liken/liken/core/TokenSlice;" } : Jvm.MethodName) prog_45_method_7_code (3 : Nat) (Option.some (Jvm.ClassFile.FieldType.object "com/example/liken/liken/core/TokenSlice"))).before args0 about1 = true := code_word (m := ⟨24, 3⟩) (meth := k24m3) (c := k24c3) (by decide +kernel) rfl rfl rfl (by decide +kernel)
set_option maxRecDepth 65536 in
theorem w_c27 : (Jvm.Cond.code ({ cls := "java/util/Objects", name := "checkFromToIndex", desc := "(III)I" } : Jvm.MethodName) jdk_31_method_18_code (3 : Nat) (Option.some Jvm.ClassFile.FieldType.int)).before args0 about1 = true := code_word (m := ⟨14, 3⟩) (meth := k14m3) (c := k14c3) (by decide +kernel) rfl rfl rfl (by decide +kernel)
set_option maxRecDepth 65536 in
theorem w_c28 : (Jvm.Cond.code ({ cls := "jdk/internal/util/Preconditions", name := "checkFromToIndex", desc := "(IIILjava/util/function/BiFunction;)I" } : Jvm.MethodName) jdk_41_method_12_code (4 : Nat) (Option.some Jvm.ClassFile.FieldType.int)).before args0 about1 = true := code_word (m := ⟨30, 1⟩) (meth := k30m1) (c := k30c1) (by decide +kernel) rfl rfl rfl (by decide +kernel)
set_option maxRecDepth 65536 in
theorem w_c29 : (Jvm.Cond.code ({ cls := "java/util/ArrayList", name := "add", desc := "(Ljava/lang/Object;)Z" } : Jvm.MethodName) jdk_38_method_25_code (2 : Nat) (Option.some Jvm.ClassFile.FieldType.boolean)).before args0 about1 = true := code_word (m := ⟨23, 6⟩) (meth := k23m6) (c := k23c6) (by decide +kernel) rfl rfl rfl (by decide +kernel)
set_option maxRecDepth 65536 in
theorem w_c30 : (Jvm.Cond.code ({ cls := "java/util/ArrayList", name := "add", desc := "(Ljava/lang/Object;[Ljava/lang/Object;I)V" } : Jvm.MethodName) jdk_38_method_24_code (4 : Nat) (Option.none : Option Jvm.ClassFile.FieldType)).before args0 about1 = true := code_word (m := ⟨23, 5⟩) (meth := k23m5) (c := k23c5) (by decide +kernel) rfl rfl rfl (by decide +kernel)
set_option maxRecDepth 65536 in
theorem w_c31 : (Jvm.Cond.code ({ cls := "java/util/ArrayList", name := "grow", desc := "()[Ljava/lang/Object;" } : Jvm.MethodName) jdk_38_method_7_code (1 : Nat) (Option.some (Jvm.ClassFile.FieldType.array (Jvm.ClassFile.FieldType.object "java/lang/Object")))).before args0 about1 = true := code_word (m := ⟨23, 2⟩) (meth := k23m2) (c := k23c2) (by decide +kernel) rfl rfl rfl (by decide +kernel)
set_option maxRecDepth 65536 in
theorem w_c32 : (Jvm.Cond.code ({ cls := "java/util/ArrayList", name := "grow", desc := "(I)[Ljava/lang/Object;" } : Jvm.MethodName) jdk_38_method_6_code (4 : Nat) (Option.some (Jvm.ClassFile.FieldType.array (Jvm.ClassFile.FieldType.object "java/lang/Object")))).before args0 about1 = true := code_word (m := ⟨23, 1⟩) (meth := k23m1) (c := k23c1) (by decide +kernel) rfl rfl rfl (by decide +kernel)
set_option maxRecDepth 65536 in
theorem w_c33 : (Jvm.Cond.code ({ cls := "java/lang/Math", name := "max", desc := "(II)I" } : Jvm.MethodName) jdk_29_method_65_code (2 : Nat) (Option.some Jvm.ClassFile.FieldType.int)).before args0 about1 = true := code_word (m := ⟨31, 1⟩) (meth := k31m1) (c := k31c1) (by decide +kernel) rfl rfl rfl (by decide +kernel)
set_option maxRecDepth 65536 in
theorem w_c34 : (Jvm.Cond.code ({ cls := "java/util/ArrayList", name := "toArray", desc := "()[Ljava/lang/Object;" } : Jvm.MethodName) jdk_38_method_16_code (1 : Nat) (Option.some (Jvm.ClassFile.FieldType.array (Jvm.ClassFile.FieldType.object "java/lang/Object")))).before args0 about1 = true := code_word (m := ⟨23, 4⟩) (meth := k23m4) (c := k23c4) (by decide +kernel) rfl rfl rfl (by decide +kernel)
set_option maxRecDepth 65536 in
theorem w_c35 : (Jvm.Cond.code ({ cls := "java/util/Arrays", name := "copyOf", desc := "([Ljava/lang/Object;I)[Ljava/lang/Object;" } : Jvm.MethodName) jdk_65_method_119_code (2 : Nat) (Option.some (Jvm.ClassFile.FieldType.array (Jvm.ClassFile.FieldType.object "java/lang/Object")))).before args0 about1 = true := code_word (m := ⟨32, 1⟩) (meth := k32m1) (c := k32c1) (by decide +kernel) rfl rfl rfl (by decide +kernel)
set_option maxRecDepth 65536 in
theorem w_c36 : (Jvm.Cond.code ({ cls := "java/util/Arrays", name := "copyOf", desc := "([Ljava/lang/Object;ILjava/lang/Class;)[Ljava/lang/Object;" } : Jvm.MethodName) jdk_65_method_120_code (4 : Nat) (Option.some (Jvm.ClassFile.FieldType.array (Jvm.ClassFile.FieldType.object "java/lang/Object")))).before args0 about1 = true := code_word (m := ⟨32, 2⟩) (meth := k32m2) (c := k32c2) (by decide +kernel) rfl rfl rfl (by decide +kernel)
set_option maxRecDepth 65536 in
theorem w_c37 : (Jvm.Cond.code ({ cls := "java/lang/Math", name := "min", desc := "(II)I" } : Jvm.MethodName) jdk_29_method_69_code (2 : Nat) (Option.some Jvm.ClassFile.FieldType.int)).before args0 about1 = true := code_word (m := ⟨31, 2⟩) (meth := k31m2) (c := k31c2) (by decide +kernel) rfl rfl rfl (by decide +kernel)
set_option maxRecDepth 65536 in
theorem w_c38 : (Jvm.Cond.code ({ cls := "java/util/List", name := "of", desc := "([Ljava/lang/Object;)Ljava/util/List;" } : Jvm.MethodName) jdk_40_method_47_code (2 : Nat) (Option.some (Jvm.ClassFile.FieldType.object "java/util/List"))).before args0 about1 = true := code_word (m := ⟨19, 3⟩) (meth := k19m3) (c := k19c3) (by decide +kernel) rfl rfl rfl (by decide +kernel)
set_option maxRecDepth 65536 in
theorem w_c39 : (Jvm.Cond.code ({ cls := "java/util/ImmutableCollections$List12", name := "<init>", desc := "(Ljava/lang/Object;)V" } : Jvm.MethodName) jdk_44_method_1_code (2 : Nat) (Option.none : Option Jvm.ClassFile.FieldType)).before args0 about1 = true := code_word (m := ⟨28, 0⟩) (meth := k28m0) (c := k28c0) (by decide +kernel) rfl rfl rfl (by decide +kernel)
set_option maxRecDepth 65536 in
theorem w_c40 : (Jvm.Cond.code ({ cls := "java/util/ImmutableCollections$AbstractImmutableList", name := "<init>", desc := "()V" } : Jvm.MethodName) jdk_46_method_1_code (1 : Nat) (Option.none : Option Jvm.ClassFile.FieldType)).before args0 about1 = true := code_word (m := ⟨27, 0⟩) (meth := k27m0) (c := k27c0) (by decide +kernel) rfl rfl rfl (by decide +kernel)
set_option maxRecDepth 65536 in
theorem w_c41 : (Jvm.Cond.code ({ cls := "java/util/ImmutableCollections$AbstractImmutableCollection", name := "<init>", desc := "()V" } : Jvm.MethodName) jdk_47_method_1_code (1 : Nat) (Option.none : Option Jvm.ClassFile.FieldType)).before args0 about1 = true := code_word (m := ⟨26, 0⟩) (meth := k26m0) (c := k26c0) (by decide +kernel) rfl rfl rfl (by decide +kernel)
set_option maxRecDepth 65536 in
theorem w_c42 : (Jvm.Cond.code ({ cls := "java/util/Objects", name := "requireNonNull", desc := "(Ljava/lang/Object;)Ljava/lang/Object;" } : Jvm.MethodName) jdk_31_method_10_code (1 : Nat) (Option.some (Jvm.ClassFile.FieldType.object "java/lang/Object"))).before args0 about1 = true := code_word (m := ⟨14, 1⟩) (meth := k14m1) (c := k14c1) (by decide +kernel) rfl rfl rfl (by decide +kernel)
set_option maxRecDepth 65536 in
theorem w_c43 : (Jvm.Cond.code ({ cls := "java/util/ImmutableCollections$List12", name := "size", desc := "()I" } : Jvm.MethodName) jdk_44_method_3_code (1 : Nat) (Option.some Jvm.ClassFile.FieldType.int)).before args0 about1 = true := code_word (m := ⟨28, 2⟩) (meth := k28m2) (c := k28c2) (by decide +kernel) rfl rfl rfl (by decide +kernel)
set_option maxRecDepth 65536 in
theorem w_c44 : (Jvm.Cond.code ({ cls := "java/util/ImmutableCollections$List12", name := "get", desc := "(I)Ljava/lang/Object;" } : Jvm.MethodName) jdk_44_method_5_code (2 : Nat) (Option.some (Jvm.ClassFile.FieldType.object "java/lang/Object"))).before args0 about1 = true := code_word (m := ⟨28, 3⟩) (meth := k28m3) (c := k28c3) (by decide +kernel) rfl rfl rfl (by decide +kernel)
set_option maxRecDepth 65536 in
theorem w_c45 : (Jvm.Cond.code ({ cls := "java/util/ImmutableCollections", name := "listFromArray", desc := "([Ljava/lang/Object;)Ljava/util/List;" } : Jvm.MethodName) jdk_56_method_4_code (3 : Nat) (Option.some (Jvm.ClassFile.FieldType.object "java/util/List"))).before args0 about1 = true := code_word (m := ⟨25, 2⟩) (meth := k25m2) (c := k25c2) (by decide +kernel) rfl rfl rfl (by decide +kernel)
set_option maxRecDepth 65536 in
theorem w_c46 : (Jvm.Cond.code ({ cls := "java/util/ImmutableCollections$ListN", name := "<init>", desc := "([Ljava/lang/Object;Z)V" } : Jvm.MethodName) jdk_45_method_1_code (3 : Nat) (Option.none : Option Jvm.ClassFile.FieldType)).before args0 about1 = true := code_word (m := ⟨29, 0⟩) (meth := k29m0) (c := k29c0) (by decide +kernel) rfl rfl rfl (by decide +kernel)
set_option maxRecDepth 65536 in
theorem w_c47 : (Jvm.Cond.code ({ cls := "java/util/ImmutableCollections$ListN", name := "get", desc := "(I)Ljava/lang/Object;" } : Jvm.MethodName) jdk_45_method_4_code (2 : Nat) (Option.some (Jvm.ClassFile.FieldType.object "java/lang/Object"))).before args0 about1 = true := code_word (m := ⟨29, 2⟩) (meth := k29m2) (c := k29c2) (by decide +kernel) rfl rfl rfl (by decide +kernel)
set_option maxRecDepth 65536 in
theorem w_c48 : (Jvm.Cond.code ({ cls := "java/util/ImmutableCollections$List12", name := "<init>", desc := "(Ljava/lang/Object;Ljava/lang/Object;)V" } : Jvm.MethodName) jdk_44_method_2_code (3 : Nat) (Option.none : Option Jvm.ClassFile.FieldType)).before args0 about1 = true := code_word (m := ⟨28, 1⟩) (meth := k28m1) (c := k28c1) (by decide +kernel) rfl rfl rfl (by decide +kernel)
def codes1 : List Jvm.Cond := [Jvm.Cond.code x code maxLocals ret, Jvm.Cond.code ({ cls := "com/example/liken/liken/core/TokenSliceHeldPinLaw", name := "tok", desc := "(I)Lcom/example/liken/liken/core/Token;" } : Jvm.MethodName) method_3_code (7 : Nat) (Option.some (Jvm.ClassFile.FieldType.object "com/example/liken/liken/core/Token")), Jvm.Cond.code ({ cls := "java/lang/String", name := "<init>", desc := "([C)V" } : Jvm.MethodName) jdk_42_method_3_code (2 : Nat) (Option.none : Option Jvm.ClassFile.FieldType), Jvm.Cond.code ({ cls := "java/lang/String", name := "<init>", desc := "([CIILjava/lang/Void;)V" } : Jvm.MethodName) jdk_42_method_149_code (6 : Nat) (Option.none : Option Jvm.ClassFile.FieldType), Jvm.Cond.code ({ cls := "java/lang/Object", name := "<init>", desc := "()V" } : Jvm.MethodName) object_method_1_code (1 : Nat) (Option.none : Option Jvm.ClassFile.FieldType), Jvm.Cond.code ({ cls := "java/lang/StringUTF16", name := "compress", desc := "([CII)[B" } : Jvm.MethodName) jdk_52_method_16_code (6 : Nat) (Option.some (Jvm.ClassFile.FieldType.array Jvm.ClassFile.FieldType.byte)), Jvm.Cond.code ({ cls := "java/lang/StringUTF16", name := "compress", desc := "([CI[BII)I" } : Jvm.MethodName) jdk_52_method_21_code (7 : Nat) (Option.some Jvm.ClassFile.FieldType.int), Jvm.Cond.code ({ cls := "java/lang/StringUTF16", name := "coderFromArrayLen", desc := "([BI)B" } : Jvm.MethodName) jdk_52_method_15_code (2 : Nat) (Option.some Jvm.ClassFile.FieldType.byte), Jvm.Cond.code ({ cls := "java/lang/String", name := "valueOf", desc := "(C)Ljava/lang/String;" } : Jvm.MethodName) jdk_42_method_139_code (1 : Nat) (Option.some (Jvm.ClassFile.FieldType.object "java/lang/String")), Jvm.Cond.code ({ cls := "java/lang/StringLatin1", name := "canEncode", desc := "(C)Z" } : Jvm.MethodName) jdk_43_method_3_code (1 : Nat) (Option.some Jvm.ClassFile.FieldType.boolean), Jvm.Cond.code ({ cls := "java/lang/StringLatin1", name := "toBytes", desc := "(C)[B" } : Jvm.MethodName) jdk_43_method_46_code (1 : Nat) (Option.some (Jvm.ClassFile.FieldType.array Jvm.ClassFile.FieldType.byte)), Jvm.Cond.code ({ cls := "java/lang/String", name := "<init>", desc := "([BB)V" } : Jvm.MethodName) jdk_42_method_151_code (3 : Nat) (Option.none : Option Jvm.ClassFile.FieldType), Jvm.Cond.code ({ cls := "com/example/liken/liken/core/Token", name := "<init>", desc := "(Ljava/lang/String;Ljava/lang/String;Lcom/example/liken/liken/core/Token$Abstraction;I)V" } : Jvm.MethodName) prog_43_method_1_code (5 : Nat) (Option.none : Option Jvm.ClassFile.FieldType), Jvm.Cond.code ({ cls := "java/lang/Record", name := "<init>", desc := "()V" } : Jvm.MethodName) jdk_30_method_1_code (1 : Nat) (Option.none : Option Jvm.ClassFile.FieldType), Jvm.Cond.code ({ cls := "java/util/Objects", name := "requireNonNull", desc := "(Ljava/lang/Object;Ljava/lang/String;)Ljava/lang/Object;" } : Jvm.MethodName) jdk_31_method_11_code (2 : Nat) (Option.some (Jvm.ClassFile.FieldType.object "java/lang/Object")), Jvm.Cond.code ({ cls := "java/util/ArrayList", name := "<init>", desc := "()V" } : Jvm.MethodName) jdk_38_method_2_code (1 : Nat) (Option.none : Option Jvm.ClassFile.FieldType), Jvm.Cond.code ({ cls := "java/util/AbstractList", name := "<init>", desc := "()V" } : Jvm.MethodName) jdk_39_method_1_code (1 : Nat) (Option.none : Option Jvm.ClassFile.FieldType), Jvm.Cond.code ({ cls := "java/util/AbstractCollection", name := "<init>", desc := "()V" } : Jvm.MethodName) jdk_22_method_1_code (1 : Nat) (Option.none : Option Jvm.ClassFile.FieldType), Jvm.Cond.code ({ cls := "com/example/liken/liken/core/TokenSlice", name := "held", desc := "(Ljava/util/List;)Ljava/util/List;" } : Jvm.MethodName) prog_45_method_4_code (2 : Nat) (Option.some (Jvm.ClassFile.FieldType.object "java/util/List")), Jvm.Cond.code ({ cls := "com/example/liken/liken/core/TokenSlice", name := "of", desc := "(Ljava/util/List;)Lcom/example/liken/liken/core/TokenSlice;" } : Jvm.MethodName) prog_45_method_2_code (2 : Nat) (Option.some (Jvm.ClassFile.FieldType.object "com/example/liken/liken/core/TokenSlice")), Jvm.Cond.code ({ cls := "java/util/List", name := "copyOf", desc := "(Ljava/util/Collection;)Ljava/util/List;" } : Jvm.MethodName) jdk_40_method_48_code (1 : Nat) (Option.some (Jvm.ClassFile.FieldType.object "java/util/List")), Jvm.Cond.code ({ cls := "java/util/ImmutableCollections", name := "listCopy", desc := "(Ljava/util/Collection;)Ljava/util/List;" } : Jvm.MethodName) jdk_56_method_3_code (2 : Nat) (Option.some (Jvm.ClassFile.FieldType.object "java/util/List")), Jvm.Cond.code ({ cls := "java/util/ArrayList", name := "isEmpty", desc := "()Z" } : Jvm.MethodName) jdk_38_method_9_code (1 : Nat) (Option.some Jvm.ClassFile.FieldType.boolean), Jvm.Cond.code ({ cls := "java/util/List", name := "of", desc := "()Ljava/util/List;" } : Jvm.MethodName) jdk_40_method_36_code (0 : Nat) (Option.some (Jvm.ClassFile.FieldType.object "java/util/List")), Jvm.Cond.code ({ cls := "java/util/ImmutableCollections$ListN", name := "size", desc := "()I" } : Jvm.MethodName) jdk_45_method_3_code (1 : Nat) (Option.some Jvm.ClassFile.FieldType.int), Jvm.Cond.code ({ cls := "com/example/liken/liken/core/TokenSlice", name := "<init>", desc := "(Ljava/util/List;II)V" } : Jvm.MethodName) prog_45_method_1_code (4 : Nat) (Option.none : Option Jvm.ClassFile.FieldType), Jvm.Cond.code ({ cls := "com/example/liken/liken/core/TokenSlice", name := "subList", desc := "(II)Lcom/example/liken/liken/core/TokenSlice;" } : Jvm.MethodName) prog_45_method_7_code (3 : Nat) (Option.some (Jvm.ClassFile.FieldType.object "com/example/liken/liken/core/TokenSlice")), Jvm.Cond.code ({ cls := "java/util/Objects", name := "checkFromToIndex", desc := "(III)I" } : Jvm.MethodName) jdk_31_method_18_code (3 : Nat) (Option.some Jvm.ClassFile.FieldType.int), Jvm.Cond.code ({ cls := "jdk/internal/util/Preconditions", name := "checkFromToIndex", desc := "(IIILjava/util/function/BiFunction;)I" } : Jvm.MethodName) jdk_41_method_12_code (4 : Nat) (Option.some Jvm.ClassFile.FieldType.int), Jvm.Cond.code ({ cls := "java/util/ArrayList", name := "add", desc := "(Ljava/lang/Object;)Z" } : Jvm.MethodName) jdk_38_method_25_code (2 : Nat) (Option.some Jvm.ClassFile.FieldType.boolean), Jvm.Cond.code ({ cls := "java/util/ArrayList", name := "add", desc := "(Ljava/lang/Object;[Ljava/lang/Object;I)V" } : Jvm.MethodName) jdk_38_method_24_code (4 : Nat) (Option.none : Option Jvm.ClassFile.FieldType), Jvm.Cond.code ({ cls := "java/util/ArrayList", name := "grow", desc := "()[Ljava/lang/Object;" } : Jvm.MethodName) jdk_38_method_7_code (1 : Nat) (Option.some (Jvm.ClassFile.FieldType.array (Jvm.ClassFile.FieldType.object "java/lang/Object"))), Jvm.Cond.code ({ cls := "java/util/ArrayList", name := "grow", desc := "(I)[Ljava/lang/Object;" } : Jvm.MethodName) jdk_38_method_6_code (4 : Nat) (Option.some (Jvm.ClassFile.FieldType.array (Jvm.ClassFile.FieldType.object "java/lang/Object"))), Jvm.Cond.code ({ cls := "java/lang/Math", name := "max", desc := "(II)I" } : Jvm.MethodName) jdk_29_method_65_code (2 : Nat) (Option.some Jvm.ClassFile.FieldType.int), Jvm.Cond.code ({ cls := "java/util/ArrayList", name := "toArray", desc := "()[Ljava/lang/Object;" } : Jvm.MethodName) jdk_38_method_16_code (1 : Nat) (Option.some (Jvm.ClassFile.FieldType.array (Jvm.ClassFile.FieldType.object "java/lang/Object"))), Jvm.Cond.code ({ cls := "java/util/Arrays", name := "copyOf", desc := "([Ljava/lang/Object;I)[Ljava/lang/Object;" } : Jvm.MethodName) jdk_65_method_119_code (2 : Nat) (Option.some (Jvm.ClassFile.FieldType.array (Jvm.ClassFile.FieldType.object "java/lang/Object"))), Jvm.Cond.code ({ cls := "java/util/Arrays", name := "copyOf", desc := "([Ljava/lang/Object;ILjava/lang/Class;)[Ljava/lang/Object;" } : Jvm.MethodName) jdk_65_method_120_code (4 : Nat) (Option.some (Jvm.ClassFile.FieldType.array (Jvm.ClassFile.FieldType.object "java/lang/Object"))), Jvm.Cond.code ({ cls := "java/lang/Math", name := "min", desc := "(II)I" } : Jvm.MethodName) jdk_29_method_69_code (2 : Nat) (Option.some Jvm.ClassFile.FieldType.int), Jvm.Cond.code ({ cls := "java/util/List", name := "of", desc := "([Ljava/lang/Object;)Ljava/util/List;" } : Jvm.MethodName) jdk_40_method_47_code (2 : Nat) (Option.some (Jvm.ClassFile.FieldType.object "java/util/List")), Jvm.Cond.code ({ cls := "java/util/ImmutableCollections$List12", name := "<init>", desc := "(Ljava/lang/Object;)V" } : Jvm.MethodName) jdk_44_method_1_code (2 : Nat) (Option.none : Option Jvm.ClassFile.FieldType), Jvm.Cond.code ({ cls := "java/util/ImmutableCollections$AbstractImmutableList", name := "<init>", desc := "()V" } : Jvm.MethodName) jdk_46_method_1_code (1 : Nat) (Option.none : Option Jvm.ClassFile.FieldType), Jvm.Cond.code ({ cls := "java/util/ImmutableCollections$AbstractImmutableCollection", name := "<init>", desc := "()V" } : Jvm.MethodName) jdk_47_method_1_code (1 : Nat) (Option.none : Option Jvm.ClassFile.FieldType), Jvm.Cond.code ({ cls := "java/util/Objects", name := "requireNonNull", desc := "(Ljava/lang/Object;)Ljava/lang/Object;" } : Jvm.MethodName) jdk_31_method_10_code (1 : Nat) (Option.some (Jvm.ClassFile.FieldType.object "java/lang/Object")), Jvm.Cond.code ({ cls := "java/util/ImmutableCollections$List12", name := "size", desc := "()I" } : Jvm.MethodName) jdk_44_method_3_code (1 : Nat) (Option.some Jvm.ClassFile.FieldType.int), Jvm.Cond.code ({ cls := "java/util/ImmutableCollections$List12", name := "get", desc := "(I)Ljava/lang/Object;" } : Jvm.MethodName) jdk_44_method_5_code (2 : Nat) (Option.some (Jvm.ClassFile.FieldType.object "java/lang/Object")), Jvm.Cond.code ({ cls := "java/util/ImmutableCollections", name := "listFromArray", desc := "([Ljava/lang/Object;)Ljava/util/List;" } : Jvm.MethodName) jdk_56_method_4_code (3 : Nat) (Option.some (Jvm.ClassFile.FieldType.object "java/util/List")), Jvm.Cond.code ({ cls := "java/util/ImmutableCollections$ListN", name := "<init>", desc := "([Ljava/lang/Object;Z)V" } : Jvm.MethodName) jdk_45_method_1_code (3 : Nat) (Option.none : Option Jvm.ClassFile.FieldType), Jvm.Cond.code ({ cls := "java/util/ImmutableCollections$ListN", name := "get", desc := "(I)Ljava/lang/Object;" } : Jvm.MethodName) jdk_45_method_4_code (2 : Nat) (Option.some (Jvm.ClassFile.FieldType.object "java/lang/Object")), Jvm.Cond.code ({ cls := "java/util/ImmutableCollections$List12", name := "<init>", desc := "(Ljava/lang/Object;Ljava/lang/Object;)V" } : Jvm.MethodName) jdk_44_method_2_code (3 : Nat) (Option.none : Option Jvm.ClassFile.FieldType)]
set_option maxRecDepth 65536 in
theorem codes_eq : words1.filter isCode = codes1 := rfl
theorem w_codes : ∀ c ∈ words1.filter isCode, c.before args0 about1 = true := by
  rw [codes_eq]
  intro c hc
  simp only [codes1, List.mem_cons, List.not_mem_nil, or_false] at hc
  rcases hc with rfl | rfl | rfl | rfl | rfl | rfl | rfl | rfl | rfl | rfl | rfl | rfl | rfl | rfl | rfl | rfl | rfl | rfl | rfl | rfl | rfl | rfl | rfl | rfl | rfl | rfl | rfl | rfl | rfl | rfl | rfl | rfl | rfl | rfl | rfl | rfl | rfl | rfl | rfl | rfl | rfl | rfl | rfl | rfl | rfl | rfl | rfl | rfl | rfl
  · exact w_c0
  · exact w_c1
  · exact w_c2
  · exact w_c3
  · exact w_c4
  · exact w_c5
  · exact w_c6
  · exact w_c7
  · exact w_c8
  · exact w_c9
  · exact w_c10
  · exact w_c11
  · exact w_c12
  · exact w_c13
  · exact w_c14
  · exact w_c15
  · exact w_c16
  · exact w_c17
  · exact w_c18
  · exact w_c19
  · exact w_c20
  · exact w_c21
  · exact w_c22
  · exact w_c23
  · exact w_c24
  · exact w_c25
  · exact w_c26
  · exact w_c27
  · exact w_c28
  · exact w_c29
  · exact w_c30
  · exact w_c31
  · exact w_c32
  · exact w_c33
  · exact w_c34
  · exact w_c35
  · exact w_c36
  · exact w_c37
  · exact w_c38
  · exact w_c39
  · exact w_c40
  · exact w_c41
  · exact w_c42
  · exact w_c43
  · exact w_c44
  · exact w_c45
  · exact w_c46
  · exact w_c47
  · exact w_c48
set_option maxRecDepth 65536 in
theorem w_t1 : (words1.take 24).all (fun c => isCode c || c.before args0 about1) = true := by decide +kernel
set_option maxRecDepth 65536 in
theorem w_t2 : ((words1.drop 24).take 24).all (fun c => isCode c || c.before args0 about1) = true := by decide +kernel
set_option maxRecDepth 65536 in
theorem w_t3 : (((words1.drop 24).drop 24).take 24).all (fun c => isCode c || c.before args0 about1) = true := by decide +kernel
set_option maxRecDepth 65536 in
theorem w_t4 : ((((words1.drop 24).drop 24).drop 24).take 24).all (fun c => isCode c || c.before args0 about1) = true := by decide +kernel
set_option maxRecDepth 65536 in
theorem w_t5 : (((((words1.drop 24).drop 24).drop 24).drop 24).take 24).all (fun c => isCode c || c.before args0 about1) = true := by decide +kernel
set_option maxRecDepth 65536 in
theorem w_t6 : ((((((words1.drop 24).drop 24).drop 24).drop 24).drop 24).take 24).all (fun c => isCode c || c.before args0 about1) = true := by decide +kernel
set_option maxRecDepth 65536 in
theorem w_t7 : (((((((words1.drop 24).drop 24).drop 24).drop 24).drop 24).drop 24).take 24).all (fun c => isCode c || c.before args0 about1) = true := by decide +kernel
set_option maxRecDepth 65536 in
theorem w_t8 : ((((((((words1.drop 24).drop 24).drop 24).drop 24).drop 24).drop 24).drop 24).take 24).all (fun c => isCode c || c.before args0 about1) = true := by decide +kernel
set_option maxRecDepth 65536 in
theorem w_t9 : (((((((((words1.drop 24).drop 24).drop 24).drop 24).drop 24).drop 24).drop 24).drop 24).take 24).all (fun c => isCode c || c.before args0 about1) = true := by decide +kernel
set_option maxRecDepth 65536 in
theorem w_t10 : ((((((((((words1.drop 24).drop 24).drop 24).drop 24).drop 24).drop 24).drop 24).drop 24).drop 24).take 24).all (fun c => isCode c || c.before args0 about1) = true := by decide +kernel
set_option maxRecDepth 65536 in
theorem w_t11 : (((((((((((words1.drop 24).drop 24).drop 24).drop 24).drop 24).drop 24).drop 24).drop 24).drop 24).drop 24).take 24).all (fun c => isCode c || c.before args0 about1) = true := by decide +kernel
set_option maxRecDepth 65536 in
theorem w_t12 : ((((((((((((words1.drop 24).drop 24).drop 24).drop 24).drop 24).drop 24).drop 24).drop 24).drop 24).drop 24).drop 24).take 24).all (fun c => isCode c || c.before args0 about1) = true := by decide +kernel
set_option maxRecDepth 65536 in
theorem w_t13 : (((((((((((((words1.drop 24).drop 24).drop 24).drop 24).drop 24).drop 24).drop 24).drop 24).drop 24).drop 24).drop 24).drop 24).take 24).all (fun c => isCode c || c.before args0 about1) = true := by decide +kernel
set_option maxRecDepth 65536 in
theorem w_t14 : (((((((((((((words1.drop 24).drop 24).drop 24).drop 24).drop 24).drop 24).drop 24).drop 24).drop 24).drop 24).drop 24).drop 24).drop 24).all (fun c => isCode c || c.before args0 about1) = true := by decide +kernel
theorem w_tables : (allAtoms (Jvm.Cond.code x code maxLocals ret :: tables_1)).before args0 about1 = true := by
  rw [allAtoms_all]
  show words1.all (fun c => c.before args0 about1) = true
  refine all_split ?_ w_codes
  rw [← List.take_append_drop 24 words1, List.all_append, w_t1, ← List.take_append_drop 24 (words1.drop 24), List.all_append, w_t2, ← List.take_append_drop 24 ((words1.drop 24).drop 24), List.all_append, w_t3, ← List.take_append_drop 24 (((words1.drop 24).drop 24).drop 24), List.all_append, w_t4, ← List.take_append_drop 24 ((((words1.drop 24).drop 24).drop 24).drop 24), List.all_append, w_t5, ← List.take_append_drop 24 (((((words1.drop 24).drop 24).drop 24).drop 24).drop 24), List.all_append, w_t6, ← List.take_append_drop 24 ((((((words1.drop 24).drop 24).drop 24).drop 24).drop 24).drop 24), List.all_append, w_t7, ← List.take_append_drop 24 (((((((words1.drop 24).drop 24).drop 24).drop 24).drop 24).drop 24).drop 24), List.all_append, w_t8, ← List.take_append_drop 24 ((((((((words1.drop 24).drop 24).drop 24).drop 24).drop 24).drop 24).drop 24).drop 24), List.all_append, w_t9, ← List.take_append_drop 24 (((((((((words1.drop 24).drop 24).drop 24).drop 24).drop 24).drop 24).drop 24).drop 24).drop 24), List.all_append, w_t10, ← List.take_append_drop 24 ((((((((((words1.drop 24).drop 24).drop 24).drop 24).drop 24).drop 24).drop 24).drop 24).drop 24).drop 24), List.all_append, w_t11, ← List.take_append_drop 24 (((((((((((words1.drop 24).drop 24).drop 24).drop 24).drop 24).drop 24).drop 24).drop 24).drop 24).drop 24).drop 24), List.all_append, w_t12, ← List.take_append_drop 24 ((((((((((((words1.drop 24).drop 24).drop 24).drop 24).drop 24).drop 24).drop 24).drop 24).drop 24).drop 24).drop 24).drop 24), List.all_append, w_t13, w_t14]
  rfl
set_option maxRecDepth 65536 in
theorem w_rest : rest_1_c.before args0 about1 = true := by decide +kernel
set_option maxRecDepth 65536 in
theorem w_case : (Jvm.Cond.and given_1 narrow_1).before args0 about1 = true := by decide +kernel
theorem w_applies : (headSpec (Jvm.Cond.code x code maxLocals ret :: tables_1) room_1).applies x e0.platform about1 = true :=
  (Spec.applies_iff w_frames).mpr ⟨w_running, w_runnable, w_alone, w_named, w_hears, w_ripe, w_room, w_tables⟩
theorem atStart : AtStart classFile x code maxLocals ret World_1 tables_1 room_1 Calls_1 rest_1 Pre_1 launch0 p0 e0 about1 theMethod args0 below0 :=
  ⟨lists_1, trivial, launch0.admits_env _ _ _, launch0.least_env, fairChoices_fair.cas, fairChoices_fair.clock, w_frames, w_args, w_heap, w_applies, ⟨⟨42, k42, 5, by decide +kernel, rfl, rfl, _, rfl, rfl⟩, trivial⟩, w_rest, w_case⟩
end start1
theorem witness_1 : WitnessClaimed_1 := ⟨start1.p0, start1.e0, start1.about1, start1.theMethod, start1.args0, start1.below0, start1.atStart⟩
end Jvm.Pilot.@@N@@
