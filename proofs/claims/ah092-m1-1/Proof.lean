import JvmDerived
import JvmDerived.Pilot.@@N@@Statement
import JvmDerived.Pilot.@@N@@Code
set_option linter.unusedVariables false
set_option linter.unusedSimpArgs false
namespace Jvm.RoadKit
open Sem ClassFile Op Lib Jvm.Stand Jvm.Free Jvm.LawKit
section New
variable {p : Program} {l : Launch} {e : Env} {R : Room} {s : State} {m : MethodId} {args : Array Value} {below : List Frame} {meth : Method} {c : Code} {T : State} {locs : List Loc} {cells slots : Nat}
theorem retI (X : Stand p l e R s m args below meth c T locs cells slots) (hx : p.tables.exec = Jvm.exec) {pc : Nat} {Ls : Array Slot} {z : Int32} {rest : List Value} (hret : meth.sig.returnType = some .int) (hd : decode c.code pc = .ok (.ireturn, 1)) {fs : List Frame}
    (hl : ∀ (f : JFrame) (acts : List Action), f.method = m → f.locked = none → f.entered = [] → (doReturn e (T.setTop f) acts (some (.int z))).1 = T.setFrames fs) : Steps p.tables e below (T.setTop (mkF m pc Ls (.int z :: rest))) (T.setFrames fs) := by
  have hm' : T.vm.method? m = some meth := X.method'
  have hn : narrow .int (.int z) = .int z := rfl
  show Steps p.tables e below (T.setTop { method := m, pc := pc, locals := Ls, stack := _ :: rest, locked := none }) _
  jvm_step X.here [X.here.top, hx, hd, hm', hret, hn]
  first | (intro acts; rw [hl _ acts rfl rfl rfl]) | rw [hl _ _ rfl rfl rfl]
  exact Steps.refl _
end New
/-- from this state a run goes on to an end that meets K -/
def Good (p : Program) (e : Env) (below : List Frame) (K : Outcome → State → Prop) (S : State) : Prop := ∃ s₂ o, Steps p.tables e below S s₂ ∧ s₂.status = .running ∧ Ended s₂ below o ∧ K o s₂
theorem Good.back {p : Program} {e : Env} {below : List Frame} {K : Outcome → State → Prop} {S S' : State} (h : ∀ t, Steps p.tables e below S' t → Steps p.tables e below S t) (g : Good p e below K S') : Good p e below K S := by
  obtain ⟨t, o, h1, h2⟩ := g
  exact ⟨t, o, h t h1, h2⟩
theorem Good.done {p : Program} {e : Env} {below : List Frame} {K : Outcome → State → Prop} {S t : State} {o : Outcome} (h1 : Steps p.tables e below S t) (h2 : t.status = .running) (h3 : Ended t below o) (h4 : K o t) : Good p e below K S := ⟨t, o, h1, h2, h3, h4⟩
end Jvm.RoadKit
namespace Jvm.Pilot.@@N@@
open Jvm Jvm.ClassFile Sem Op Lib Jvm.Free Jvm.Stand Jvm.LawKit Jvm.RoadKit Bundle Jvm.Pilot.@@N@@.Jvm.D
theorem own_eqV {args : Array Value} {first s : State} {o : Option Outcome} {idx : List Nat} {a b : Term} {y : Value} (h : (Jvm.Cond.eq a b).value args first o s idx = some true) (hb : b.eval args first o idx s = some y) : a.eval args first o idx s = some y := by
  cases ha : a.eval args first o idx s with
  | none => simp [Jvm.Cond.value, ha] at h
  | some x => cases x <;> cases y <;> simp_all [Jvm.Cond.value]
theorem own_len {args : Array Value} {s : State} {t : Term} {a : Addr} {cl : Cell} {ty : FieldType} {k : Int32} (A : Arr s s.heap a cl ty) (ev : t.eval args s none [] s = some (.ref a)) (h : (Term.length t).eval args s none [] s = some (.int k)) : cl.slots.size < 2 ^ 31 ∧ cl.slots.size.toInt32 = k := by
  have ha : s.arrayAt? a = some cl := IntBox.arrayAt_of A.1 A.2.1 A.2.2
  simp [Term.eval, ev, ha] at h
  exact h

theorem own_small {e : Int32} {n : Nat} (h0 : 0 ≤ e.toInt) (hn : e.toInt < n) : ∃ k : Nat, k < n ∧ e = Int32.ofNat k := by
  refine ⟨e.toInt.toNat, by omega, ?_⟩
  apply Int32.toInt_inj.mp
  have hb := e.toInt_lt
  rw [Int32.toInt_ofNat_of_lt (by omega)]
  omega
theorem own_mask {x m : Int32} {n : Nat} (hm : 0 ≤ m.toInt) (hn : m.toInt < n) : ∃ k : Nat, k < n ∧ (x &&& m) = Int32.ofNat k := by
  have h := c_and x m hm
  exact own_small h.1 (by omega)
theorem own_modm {x y : Int32} {d : Int} {n : Nat} (hy : y.toInt = d) (hd : 0 < d) (hn : d ≤ n) : ∃ k : Nat, k < n ∧ ((x &&& (2147483647 : Int32)) % y) = Int32.ofNat k := by
  have h := c_and x 2147483647 (by decide)
  have h2 := (c_irem (x &&& 2147483647) y d hy).1 h.1
  refine own_small ?_ ?_ <;> rw [h2]
  · exact Int.emod_nonneg _ (by omega)
  · have := Int.emod_lt_of_pos (x &&& 2147483647).toInt hd
    omega

theorem own_pn0 : plainName "com/example/trinode/trinode/tzaar/Ending" = true := by first | (simp [plainName, overriddenIn]; done) | decide +kernel
theorem own_d1_0 : decode prog_40_method_4_code 0 = .ok (.aconst_null, 1) := by decide +kernel
theorem own_d1_1 : decode prog_40_method_4_code 1 = .ok (.astore_n 1, 1) := by decide +kernel
theorem own_d1_2 : decode prog_40_method_4_code 2 = .ok (.getstatic 46, 3) := by decide +kernel
theorem own_d1_5 : decode prog_40_method_4_code 5 = .ok (.astore_n 2, 1) := by decide +kernel
theorem own_d1_6 : decode prog_40_method_4_code 6 = .ok (.aload_n 2, 1) := by decide +kernel
theorem own_d1_7 : decode prog_40_method_4_code 7 = .ok (.arraylength, 1) := by decide +kernel
theorem own_d1_8 : decode prog_40_method_4_code 8 = .ok (.istore_n 3, 1) := by decide +kernel
theorem own_d1_9 : decode prog_40_method_4_code 9 = .ok (.iconst 0, 1) := by decide +kernel
theorem own_d1_10 : decode prog_40_method_4_code 10 = .ok (.istore 4, 2) := by decide +kernel
theorem own_d1_12 : decode prog_40_method_4_code 12 = .ok (.iload 4, 2) := by decide +kernel
theorem own_d1_14 : decode prog_40_method_4_code 14 = .ok (.iload_n 3, 1) := by decide +kernel
theorem own_d1_15 : decode prog_40_method_4_code 15 = .ok (.if_icmp .ge 27, 3) := by decide +kernel
theorem own_d1_18 : decode prog_40_method_4_code 18 = .ok (.aload_n 2, 1) := by decide +kernel
theorem own_d1_19 : decode prog_40_method_4_code 19 = .ok (.iload 4, 2) := by decide +kernel
theorem own_d1_21 : decode prog_40_method_4_code 21 = .ok (.aaload, 1) := by decide +kernel
theorem own_d1_22 : decode prog_40_method_4_code 22 = .ok (.astore 5, 2) := by decide +kernel
theorem own_d1_24 : decode prog_40_method_4_code 24 = .ok (.aload 5, 2) := by decide +kernel
theorem own_d1_26 : decode prog_40_method_4_code 26 = .ok (.getfield 42, 3) := by decide +kernel
theorem own_d1_29 : decode prog_40_method_4_code 29 = .ok (.aload_n 0, 1) := by decide +kernel
theorem own_d1_30 : decode prog_40_method_4_code 30 = .ok (.if_acmp .ne 6, 3) := by decide +kernel
theorem own_d1_33 : decode prog_40_method_4_code 33 = .ok (.aload 5, 2) := by decide +kernel
theorem own_d1_35 : decode prog_40_method_4_code 35 = .ok (.astore_n 1, 1) := by decide +kernel
theorem own_d1_36 : decode prog_40_method_4_code 36 = .ok (.iinc 4 1, 3) := by decide +kernel
theorem own_d1_39 : decode prog_40_method_4_code 39 = .ok (.goto (-27), 3) := by decide +kernel
theorem own_d1_42 : decode prog_40_method_4_code 42 = .ok (.aload_n 1, 1) := by decide +kernel
theorem own_d1_43 : decode prog_40_method_4_code 43 = .ok (.areturn, 1) := by decide +kernel
theorem own_ef_1_TOTT (m : MethodId) (x0 : Addr) : entryFrame m #[(.ref x0)] 6 = mkF m 0 #[.val (.ref x0), .unset, .unset, .unset, .unset, .unset] [] := by first | (simp [entryFrame, mkF, argsToLocals, Value.category]; done) | rfl
def Q1_TOTT (Z : State) (w_TOTT : Addr) (w_NO_TOTT : Addr) (w_ENDINGS : Addr) (w_IN_PROGRESS : Addr) (w_NO_TZAAR : Addr) (w_TZAAR : Addr) (w_NO_TZARRA : Addr) (w_TZARRA : Addr) (w_NO_CAPTURE : Addr) (kc_w_ENDINGS : ClassId) (h0 : Heap) (n0 : Nat) (v : Option Value) (h : Heap) (L : List Loc) : Prop := v = some (.ref w_NO_TOTT) ∧ Fr n0 L ∧ h = h0
set_option maxRecDepth 65536 in
set_option maxHeartbeats 40000000 in
theorem rm1_TOTT (l : Launch) (Z : State) (a0 : Array Value) (hw : ∀ d ∈ tables_1, d.before a0 Z = true) (ws : List Jvm.Cond) (w_TOTT : Addr) (w_NO_TOTT : Addr) (w_ENDINGS : Addr) (w_IN_PROGRESS : Addr) (w_NO_TZAAR : Addr) (w_TZAAR : Addr) (w_NO_TZARRA : Addr) (w_TZARRA : Addr) (w_NO_CAPTURE : Addr) (kc_w_ENDINGS : ClassId) (h0 : Heap) (n0 : Nat) (Z0 : n0 ≤ h0.size) (S_w_TOTT : Sta Z h0 "com/example/trinode/trinode/tzaar/PieceType" "TOTT" "Lcom/example/trinode/trinode/tzaar/PieceType;" (.ref w_TOTT)) (E_w_TOTT : Exa Z h0 w_TOTT "com/example/trinode/trinode/tzaar/PieceType") (S_w_NO_TOTT : Sta Z h0 "com/example/trinode/trinode/tzaar/Ending" "NO_TOTT" "Lcom/example/trinode/trinode/tzaar/Ending;" (.ref w_NO_TOTT)) (E_w_NO_TOTT : Exa Z h0 w_NO_TOTT "com/example/trinode/trinode/tzaar/Ending") (S_w_ENDINGS : Sta Z h0 "com/example/trinode/trinode/tzaar/Ending" "ENDINGS" "[Lcom/example/trinode/trinode/tzaar/Ending;" (.ref w_ENDINGS)) (S_w_IN_PROGRESS : Sta Z h0 "com/example/trinode/trinode/tzaar/Ending" "IN_PROGRESS" "Lcom/example/trinode/trinode/tzaar/Ending;" (.ref w_IN_PROGRESS)) (E_w_IN_PROGRESS : Exa Z h0 w_IN_PROGRESS "com/example/trinode/trinode/tzaar/Ending") (S_w_NO_TZAAR : Sta Z h0 "com/example/trinode/trinode/tzaar/Ending" "NO_TZAAR" "Lcom/example/trinode/trinode/tzaar/Ending;" (.ref w_NO_TZAAR)) (E_w_NO_TZAAR : Exa Z h0 w_NO_TZAAR "com/example/trinode/trinode/tzaar/Ending") (S_w_TZAAR : Sta Z h0 "com/example/trinode/trinode/tzaar/PieceType" "TZAAR" "Lcom/example/trinode/trinode/tzaar/PieceType;" (.ref w_TZAAR)) (E_w_TZAAR : Exa Z h0 w_TZAAR "com/example/trinode/trinode/tzaar/PieceType") (S_w_NO_TZARRA : Sta Z h0 "com/example/trinode/trinode/tzaar/Ending" "NO_TZARRA" "Lcom/example/trinode/trinode/tzaar/Ending;" (.ref w_NO_TZARRA)) (E_w_NO_TZARRA : Exa Z h0 w_NO_TZARRA "com/example/trinode/trinode/tzaar/Ending") (S_w_TZARRA : Sta Z h0 "com/example/trinode/trinode/tzaar/PieceType" "TZARRA" "Lcom/example/trinode/trinode/tzaar/PieceType;" (.ref w_TZARRA)) (E_w_TZARRA : Exa Z h0 w_TZARRA "com/example/trinode/trinode/tzaar/PieceType") (S_w_NO_CAPTURE : Sta Z h0 "com/example/trinode/trinode/tzaar/Ending" "NO_CAPTURE" "Lcom/example/trinode/trinode/tzaar/Ending;" (.ref w_NO_CAPTURE)) (E_w_NO_CAPTURE : Exa Z h0 w_NO_CAPTURE "com/example/trinode/trinode/tzaar/Ending") (F_lacked_w_IN_PROGRESS : Fld Z h0 w_IN_PROGRESS "com/example/trinode/trinode/tzaar/Ending" "lacked" "Lcom/example/trinode/trinode/tzaar/PieceType;" .null) (F_lacked_w_NO_TZAAR : Fld Z h0 w_NO_TZAAR "com/example/trinode/trinode/tzaar/Ending" "lacked" "Lcom/example/trinode/trinode/tzaar/PieceType;" (.ref w_TZAAR)) (F_ordinal_w_TZAAR : Fld Z h0 w_TZAAR "java/lang/Enum" "ordinal" "I" (.int (2 : Int32))) (F_ordinal_w_TOTT : Fld Z h0 w_TOTT "java/lang/Enum" "ordinal" "I" (.int (0 : Int32))) (F_lacked_w_NO_TZARRA : Fld Z h0 w_NO_TZARRA "com/example/trinode/trinode/tzaar/Ending" "lacked" "Lcom/example/trinode/trinode/tzaar/PieceType;" (.ref w_TZARRA)) (F_ordinal_w_TZARRA : Fld Z h0 w_TZARRA "java/lang/Enum" "ordinal" "I" (.int (1 : Int32))) (F_lacked_w_NO_TOTT : Fld Z h0 w_NO_TOTT "com/example/trinode/trinode/tzaar/Ending" "lacked" "Lcom/example/trinode/trinode/tzaar/PieceType;" (.ref w_TOTT)) (F_lacked_w_NO_CAPTURE : Fld Z h0 w_NO_CAPTURE "com/example/trinode/trinode/tzaar/Ending" "lacked" "Lcom/example/trinode/trinode/tzaar/PieceType;" .null) (V_w_ENDINGS : Arv Z h0 w_ENDINGS kc_w_ENDINGS (.object "com/example/trinode/trinode/tzaar/Ending") (5 : Int32) [(.ref w_IN_PROGRESS), (.ref w_NO_TZAAR), (.ref w_NO_TZARRA), (.ref w_NO_TOTT), (.ref w_NO_CAPTURE)] .null) (ne_w_TZAAR_w_TOTT : w_TZAAR ≠ w_TOTT) (ne_w_TZAAR_w_TZARRA : w_TZAAR ≠ w_TZARRA) (ne_w_TOTT_w_TZARRA : w_TOTT ≠ w_TZARRA) :
    MetFree l (⟨"com/example/trinode/trinode/tzaar/Ending", "without", "(Lcom/example/trinode/trinode/tzaar/PieceType;)Lcom/example/trinode/trinode/tzaar/Ending;"⟩ : MethodName) (head1 (Jvm.Cond.code (⟨"com/example/trinode/trinode/tzaar/Ending", "without", "(Lcom/example/trinode/trinode/tzaar/PieceType;)Lcom/example/trinode/trinode/tzaar/Ending;"⟩ : MethodName) prog_40_method_4_code 6 (some (.object "com/example/trinode/trinode/tzaar/Ending")) :: ws) ({ frames := 0, cells := 0, slots := 0, locals := 0 } : Room)) (fun a U => a = #[(.ref w_TOTT)] ∧ Z.Warmed39 U.vm ∧ U.heap = h0) (fun _ _ _ _ _ => True) (fun _ U o U' => ∃ v L, o = .returned v ∧ Q1_TOTT Z w_TOTT w_NO_TOTT w_ENDINGS w_IN_PROGRESS w_NO_TZAAR w_TZAAR w_NO_TZARRA w_TZARRA w_NO_CAPTURE kc_w_ENDINGS h0 n0 v U'.heap L ∧ FrameEnd U o U' L ({ frames := 0, cells := 0, slots := 0, locals := 0 } : Room).cells ({ frames := 0, cells := 0, slots := 0, locals := 0 } : Room).slots) := by
  refine MetFree.of_bodySF (plainFor_of_name own_pn0) hisR ?_
  intro p e s m args below meth c s₁ Bd hml0 hP hK
  obtain ⟨rfl, hZ, hh⟩ := hP
  have hx := Bd.exec
  have hby := Bd.bytes
  have hml : c.maxLocals = 6 := hml0
  have hown : s.vm.findClass "com/example/trinode/trinode/tzaar/Ending" = some m.cls := findClass_of_methodNamed Bd.named
  have hnm := (name_of_methodNamed Bd.named Bd.method).1
  have X0 : Stand p l e ({ frames := 0, cells := 0, slots := 0, locals := 0 } : Room) s m #[(.ref w_TOTT)] below meth c s₁ [] 0 0 := Stand.of_body Bd
  have e0 : s₁.heap = h0 := by rw [← hh, Bd.state]; rfl
  have N0 := Fr.nil n0
  show Good p e below (fun o U' => ∃ v L, o = .returned v ∧ Q1_TOTT Z w_TOTT w_NO_TOTT w_ENDINGS w_IN_PROGRESS w_NO_TZAAR w_TZAAR w_NO_TZARRA w_TZARRA w_NO_CAPTURE kc_w_ENDINGS h0 n0 v U'.heap L ∧ FrameEnd s o U' L ({ frames := 0, cells := 0, slots := 0, locals := 0 } : Room).cells ({ frames := 0, cells := 0, slots := 0, locals := 0 } : Room).slots) _
  refine Good.back (S' := s₁.setTop (mkF m 0 #[.val (.ref w_TOTT), .unset, .unset, .unset, .unset, .unset] [])) (fun t k => castTop (own_ef_1_TOTT m w_TOTT) k) ?_
  show Good p e below _ (s₁.setTop (mkF m 0 #[.val (.ref w_TOTT), .unset, .unset, .unset, .unset, .unset] []))
  refine Good.back (fun _ k => XS.aconstNull X0.here hx rfl (hb hby own_d1_0) k) ?_
  show Good p e below _ (s₁.setTop (mkF m 1 #[.val (.ref w_TOTT), .unset, .unset, .unset, .unset, .unset] [.null]))
  refine Good.back (fun _ k => XS.astoreN X0.here hx rfl (hb hby own_d1_1) rfl rfl (l' := #[.val (.ref w_TOTT), .val .null, .unset, .unset, .unset, .unset]) rfl k) ?_
  show Good p e below _ (s₁.setTop (mkF m 2 #[.val (.ref w_TOTT), .val .null, .unset, .unset, .unset, .unset] []))
  obtain ⟨T1, X1, e1, st1⟩ := getS2 X0 hx hZ hown (host := "") (Or.inl (hw _ (List.mem_of_getElem? (i := 10) rfl))) Via.refl e0 S_w_ENDINGS (g := (mkF m 2 #[.val (.ref w_TOTT), .val .null, .unset, .unset, .unset, .unset] [])) rfl (hb hby own_d1_2)
  refine Good.back st1 ?_
  show Good p e below _ (T1.setTop (mkF m 5 #[.val (.ref w_TOTT), .val .null, .unset, .unset, .unset, .unset] [(.ref w_ENDINGS)]))
  refine Good.back (fun _ k => XS.astoreN X1.here hx rfl (hb hby own_d1_5) rfl rfl (l' := #[.val (.ref w_TOTT), .val .null, .val (.ref w_ENDINGS), .unset, .unset, .unset]) rfl k) ?_
  show Good p e below _ (T1.setTop (mkF m 6 #[.val (.ref w_TOTT), .val .null, .val (.ref w_ENDINGS), .unset, .unset, .unset] []))
  refine Good.back (fun _ k => XS.aloadN X1.here hx rfl (hb hby own_d1_6) rfl rfl k) ?_
  show Good p e below _ (T1.setTop (mkF m 7 #[.val (.ref w_TOTT), .val .null, .val (.ref w_ENDINGS), .unset, .unset, .unset] [(.ref w_ENDINGS)]))
  have fc2 := V_w_ENDINGS
  obtain ⟨cl2, Ar2, qk2, S2, N2', H2, G2⟩ := fc2
  refine Good.back (X1.arraylength hx (by rw [e1]; exact Ar2.1) (State.isArrayOf_alike hZ.alike Ar2.2.1) (g := (mkF m 7 #[.val (.ref w_TOTT), .val .null, .val (.ref w_ENDINGS), .unset, .unset, .unset] [(.ref w_ENDINGS)])) rfl rfl (hb hby own_d1_7)) ?_
  rw [len_of S2 N2']
  show Good p e below _ (T1.setTop (mkF m 8 #[.val (.ref w_TOTT), .val .null, .val (.ref w_ENDINGS), .unset, .unset, .unset] [(.int (5 : Int32))]))
  refine Good.back (fun _ k => XS.istoreN X1.here hx rfl (hb hby own_d1_8) rfl (l' := #[.val (.ref w_TOTT), .val .null, .val (.ref w_ENDINGS), .val (.int (5 : Int32)), .unset, .unset]) rfl k) ?_
  show Good p e below _ (T1.setTop (mkF m 9 #[.val (.ref w_TOTT), .val .null, .val (.ref w_ENDINGS), .val (.int (5 : Int32)), .unset, .unset] []))
  refine Good.back (fun _ k => XS.iconst X1.here hx rfl (hb hby own_d1_9) k) ?_
  show Good p e below _ (T1.setTop (mkF m 10 #[.val (.ref w_TOTT), .val .null, .val (.ref w_ENDINGS), .val (.int (5 : Int32)), .unset, .unset] [(.int (0 : Int32))]))
  refine Good.back (fun _ k => XS.istore X1.here hx rfl (hb hby own_d1_10) rfl (l' := #[.val (.ref w_TOTT), .val .null, .val (.ref w_ENDINGS), .val (.int (5 : Int32)), .val (.int (0 : Int32)), .unset]) rfl k) ?_
  show Good p e below _ (T1.setTop (mkF m 12 #[.val (.ref w_TOTT), .val .null, .val (.ref w_ENDINGS), .val (.int (5 : Int32)), .val (.int (0 : Int32)), .unset] []))
  refine Good.back (fun _ k => XS.iload X1.here hx rfl (hb hby own_d1_12) rfl k) ?_
  show Good p e below _ (T1.setTop (mkF m 14 #[.val (.ref w_TOTT), .val .null, .val (.ref w_ENDINGS), .val (.int (5 : Int32)), .val (.int (0 : Int32)), .unset] [(.int (0 : Int32))]))
  refine Good.back (fun _ k => XS.iloadN X1.here hx rfl (hb hby own_d1_14) rfl k) ?_
  show Good p e below _ (T1.setTop (mkF m 15 #[.val (.ref w_TOTT), .val .null, .val (.ref w_ENDINGS), .val (.int (5 : Int32)), .val (.int (0 : Int32)), .unset] [(.int (5 : Int32)), (.int (0 : Int32))]))
  refine Good.back (fun _ k => XS.icmpNo X1.here hx rfl (hb hby own_d1_15) rfl (tlt (by decide : ((0 : Int32) < (5 : Int32)))).2.1 k) ?_
  show Good p e below _ (T1.setTop (mkF m 18 #[.val (.ref w_TOTT), .val .null, .val (.ref w_ENDINGS), .val (.int (5 : Int32)), .val (.int (0 : Int32)), .unset] []))
  refine Good.back (fun _ k => XS.aloadN X1.here hx rfl (hb hby own_d1_18) rfl rfl k) ?_
  show Good p e below _ (T1.setTop (mkF m 19 #[.val (.ref w_TOTT), .val .null, .val (.ref w_ENDINGS), .val (.int (5 : Int32)), .val (.int (0 : Int32)), .unset] [(.ref w_ENDINGS)]))
  refine Good.back (fun _ k => XS.iload X1.here hx rfl (hb hby own_d1_19) rfl k) ?_
  show Good p e below _ (T1.setTop (mkF m 21 #[.val (.ref w_TOTT), .val .null, .val (.ref w_ENDINGS), .val (.int (5 : Int32)), .val (.int (0 : Int32)), .unset] [(.int (0 : Int32)), (.ref w_ENDINGS)]))
  have fc3 := V_w_ENDINGS
  obtain ⟨cl3, Ar3, qk3, S3, N3', H3, G3⟩ := fc3
  have hin3 : ¬ ((0 : Int32) < 0 ∨ cl3.slots.size ≤ ((0 : Int32)).toNatClampNeg) := inb_of S3 ⟨by decide, by decide⟩
  have hat3 : cl3.slots[((0 : Int32)).toNatClampNeg]? = some (.ref w_IN_PROGRESS) := Has.at H3 hin3 rfl
  refine Good.back (X1.aaload hx (j := (0 : Int32)) (v := (.ref w_IN_PROGRESS)) (by rw [e1]; exact Ar3.1) (State.isArrayOf_alike hZ.alike Ar3.2.1) rfl Ar3.2.2 hin3 hat3 (g := (mkF m 21 #[.val (.ref w_TOTT), .val .null, .val (.ref w_ENDINGS), .val (.int (5 : Int32)), .val (.int (0 : Int32)), .unset] [(.int (0 : Int32)), (.ref w_ENDINGS)])) rfl rfl (hb hby own_d1_21)) ?_
  show Good p e below _ (T1.setTop (mkF m 22 #[.val (.ref w_TOTT), .val .null, .val (.ref w_ENDINGS), .val (.int (5 : Int32)), .val (.int (0 : Int32)), .unset] [(.ref w_IN_PROGRESS)]))
  refine Good.back (fun _ k => XS.astore X1.here hx rfl (hb hby own_d1_22) rfl rfl (l' := #[.val (.ref w_TOTT), .val .null, .val (.ref w_ENDINGS), .val (.int (5 : Int32)), .val (.int (0 : Int32)), .val (.ref w_IN_PROGRESS)]) rfl k) ?_
  show Good p e below _ (T1.setTop (mkF m 24 #[.val (.ref w_TOTT), .val .null, .val (.ref w_ENDINGS), .val (.int (5 : Int32)), .val (.int (0 : Int32)), .val (.ref w_IN_PROGRESS)] []))
  refine Good.back (fun _ k => XS.aload X1.here hx rfl (hb hby own_d1_24) rfl rfl k) ?_
  show Good p e below _ (T1.setTop (mkF m 26 #[.val (.ref w_TOTT), .val .null, .val (.ref w_ENDINGS), .val (.int (5 : Int32)), .val (.int (0 : Int32)), .val (.ref w_IN_PROGRESS)] [(.ref w_IN_PROGRESS)]))
  obtain ⟨T4, X4, e4, st4⟩ := getF X1 hx hZ hown (host := "") (Or.inl (hw _ (List.mem_of_getElem? (i := 13) rfl))) Via.refl e1 F_lacked_w_IN_PROGRESS (g := (mkF m 26 #[.val (.ref w_TOTT), .val .null, .val (.ref w_ENDINGS), .val (.int (5 : Int32)), .val (.int (0 : Int32)), .val (.ref w_IN_PROGRESS)] [(.ref w_IN_PROGRESS)])) rfl rfl (hb hby own_d1_26)
  refine Good.back st4 ?_
  show Good p e below _ (T4.setTop (mkF m 29 #[.val (.ref w_TOTT), .val .null, .val (.ref w_ENDINGS), .val (.int (5 : Int32)), .val (.int (0 : Int32)), .val (.ref w_IN_PROGRESS)] [.null]))
  refine Good.back (fun _ k => XS.aloadN X4.here hx rfl (hb hby own_d1_29) rfl rfl k) ?_
  show Good p e below _ (T4.setTop (mkF m 30 #[.val (.ref w_TOTT), .val .null, .val (.ref w_ENDINGS), .val (.int (5 : Int32)), .val (.int (0 : Int32)), .val (.ref w_IN_PROGRESS)] [(.ref w_TOTT), .null]))
  refine Good.back (fun _ k => Jvm.RoadKit.acmp (g := (mkF m 30 #[.val (.ref w_TOTT), .val .null, .val (.ref w_ENDINGS), .val (.int (5 : Int32)), .val (.int (0 : Int32)), .val (.ref w_IN_PROGRESS)] [(.ref w_TOTT), .null])) X4 hx rfl rfl rfl (pc0 := 30) (pc' := 36) (same := false) rfl (hb hby own_d1_30) rfl (decide_eq_false nofun) (by decide) (by decide) k) ?_
  show Good p e below _ (T4.setTop (mkF m 36 #[.val (.ref w_TOTT), .val .null, .val (.ref w_ENDINGS), .val (.int (5 : Int32)), .val (.int (0 : Int32)), .val (.ref w_IN_PROGRESS)] []))
  refine Good.back (fun _ k => XS.iinc X4.here hx rfl (hb hby own_d1_36) rfl (l' := #[.val (.ref w_TOTT), .val .null, .val (.ref w_ENDINGS), .val (.int (5 : Int32)), .val (.int ((0 : Int32) + (1 : Int32))), .val (.ref w_IN_PROGRESS)]) rfl k) ?_
  show Good p e below _ (T4.setTop (mkF m 39 #[.val (.ref w_TOTT), .val .null, .val (.ref w_ENDINGS), .val (.int (5 : Int32)), .val (.int ((0 : Int32) + (1 : Int32))), .val (.ref w_IN_PROGRESS)] []))
  rw [show (((0 : Int32) + (1 : Int32)) : Int32) = (1 : Int32) from by decide]
  show Good p e below _ (T4.setTop (mkF m 39 #[.val (.ref w_TOTT), .val .null, .val (.ref w_ENDINGS), .val (.int (5 : Int32)), .val (.int (1 : Int32)), .val (.ref w_IN_PROGRESS)] []))
  refine Good.back (fun _ k => XS.goto X4.here hx rfl (pc0 := 39) (pc' := 12) rfl (hb hby own_d1_39) (by decide) (by decide) k) ?_
  show Good p e below _ (T4.setTop (mkF m 12 #[.val (.ref w_TOTT), .val .null, .val (.ref w_ENDINGS), .val (.int (5 : Int32)), .val (.int (1 : Int32)), .val (.ref w_IN_PROGRESS)] []))
  refine Good.back (fun _ k => XS.iload X4.here hx rfl (hb hby own_d1_12) rfl k) ?_
  show Good p e below _ (T4.setTop (mkF m 14 #[.val (.ref w_TOTT), .val .null, .val (.ref w_ENDINGS), .val (.int (5 : Int32)), .val (.int (1 : Int32)), .val (.ref w_IN_PROGRESS)] [(.int (1 : Int32))]))
  refine Good.back (fun _ k => XS.iloadN X4.here hx rfl (hb hby own_d1_14) rfl k) ?_
  show Good p e below _ (T4.setTop (mkF m 15 #[.val (.ref w_TOTT), .val .null, .val (.ref w_ENDINGS), .val (.int (5 : Int32)), .val (.int (1 : Int32)), .val (.ref w_IN_PROGRESS)] [(.int (5 : Int32)), (.int (1 : Int32))]))
  refine Good.back (fun _ k => XS.icmpNo X4.here hx rfl (hb hby own_d1_15) rfl (tlt (by decide : ((1 : Int32) < (5 : Int32)))).2.1 k) ?_
  show Good p e below _ (T4.setTop (mkF m 18 #[.val (.ref w_TOTT), .val .null, .val (.ref w_ENDINGS), .val (.int (5 : Int32)), .val (.int (1 : Int32)), .val (.ref w_IN_PROGRESS)] []))
  refine Good.back (fun _ k => XS.aloadN X4.here hx rfl (hb hby own_d1_18) rfl rfl k) ?_
  show Good p e below _ (T4.setTop (mkF m 19 #[.val (.ref w_TOTT), .val .null, .val (.ref w_ENDINGS), .val (.int (5 : Int32)), .val (.int (1 : Int32)), .val (.ref w_IN_PROGRESS)] [(.ref w_ENDINGS)]))
  refine Good.back (fun _ k => XS.iload X4.here hx rfl (hb hby own_d1_19) rfl k) ?_
  show Good p e below _ (T4.setTop (mkF m 21 #[.val (.ref w_TOTT), .val .null, .val (.ref w_ENDINGS), .val (.int (5 : Int32)), .val (.int (1 : Int32)), .val (.ref w_IN_PROGRESS)] [(.int (1 : Int32)), (.ref w_ENDINGS)]))
  have fc5 := V_w_ENDINGS
  obtain ⟨cl5, Ar5, qk5, S5, N5', H5, G5⟩ := fc5
  have hin5 : ¬ ((1 : Int32) < 0 ∨ cl5.slots.size ≤ ((1 : Int32)).toNatClampNeg) := inb_of S5 ⟨by decide, by decide⟩
  have hat5 : cl5.slots[((1 : Int32)).toNatClampNeg]? = some (.ref w_NO_TZAAR) := Has.at H5 hin5 rfl
  refine Good.back (X4.aaload hx (j := (1 : Int32)) (v := (.ref w_NO_TZAAR)) (by rw [e4]; exact Ar5.1) (State.isArrayOf_alike hZ.alike Ar5.2.1) rfl Ar5.2.2 hin5 hat5 (g := (mkF m 21 #[.val (.ref w_TOTT), .val .null, .val (.ref w_ENDINGS), .val (.int (5 : Int32)), .val (.int (1 : Int32)), .val (.ref w_IN_PROGRESS)] [(.int (1 : Int32)), (.ref w_ENDINGS)])) rfl rfl (hb hby own_d1_21)) ?_
  show Good p e below _ (T4.setTop (mkF m 22 #[.val (.ref w_TOTT), .val .null, .val (.ref w_ENDINGS), .val (.int (5 : Int32)), .val (.int (1 : Int32)), .val (.ref w_IN_PROGRESS)] [(.ref w_NO_TZAAR)]))
  refine Good.back (fun _ k => XS.astore X4.here hx rfl (hb hby own_d1_22) rfl rfl (l' := #[.val (.ref w_TOTT), .val .null, .val (.ref w_ENDINGS), .val (.int (5 : Int32)), .val (.int (1 : Int32)), .val (.ref w_NO_TZAAR)]) rfl k) ?_
  show Good p e below _ (T4.setTop (mkF m 24 #[.val (.ref w_TOTT), .val .null, .val (.ref w_ENDINGS), .val (.int (5 : Int32)), .val (.int (1 : Int32)), .val (.ref w_NO_TZAAR)] []))
  refine Good.back (fun _ k => XS.aload X4.here hx rfl (hb hby own_d1_24) rfl rfl k) ?_
  show Good p e below _ (T4.setTop (mkF m 26 #[.val (.ref w_TOTT), .val .null, .val (.ref w_ENDINGS), .val (.int (5 : Int32)), .val (.int (1 : Int32)), .val (.ref w_NO_TZAAR)] [(.ref w_NO_TZAAR)]))
  obtain ⟨T6, X6, e6, st6⟩ := getF X4 hx hZ hown (host := "") (Or.inl (hw _ (List.mem_of_getElem? (i := 13) rfl))) Via.refl e4 F_lacked_w_NO_TZAAR (g := (mkF m 26 #[.val (.ref w_TOTT), .val .null, .val (.ref w_ENDINGS), .val (.int (5 : Int32)), .val (.int (1 : Int32)), .val (.ref w_NO_TZAAR)] [(.ref w_NO_TZAAR)])) rfl rfl (hb hby own_d1_26)
  refine Good.back st6 ?_
  show Good p e below _ (T6.setTop (mkF m 29 #[.val (.ref w_TOTT), .val .null, .val (.ref w_ENDINGS), .val (.int (5 : Int32)), .val (.int (1 : Int32)), .val (.ref w_NO_TZAAR)] [(.ref w_TZAAR)]))
  refine Good.back (fun _ k => XS.aloadN X6.here hx rfl (hb hby own_d1_29) rfl rfl k) ?_
  show Good p e below _ (T6.setTop (mkF m 30 #[.val (.ref w_TOTT), .val .null, .val (.ref w_ENDINGS), .val (.int (5 : Int32)), .val (.int (1 : Int32)), .val (.ref w_NO_TZAAR)] [(.ref w_TOTT), (.ref w_TZAAR)]))
  refine Good.back (fun _ k => Jvm.RoadKit.acmp (g := (mkF m 30 #[.val (.ref w_TOTT), .val .null, .val (.ref w_ENDINGS), .val (.int (5 : Int32)), .val (.int (1 : Int32)), .val (.ref w_NO_TZAAR)] [(.ref w_TOTT), (.ref w_TZAAR)])) X6 hx rfl rfl rfl (pc0 := 30) (pc' := 36) (same := false) rfl (hb hby own_d1_30) rfl (decide_eq_false fun q => ne_w_TZAAR_w_TOTT (Value.ref.inj q)) (by decide) (by decide) k) ?_
  show Good p e below _ (T6.setTop (mkF m 36 #[.val (.ref w_TOTT), .val .null, .val (.ref w_ENDINGS), .val (.int (5 : Int32)), .val (.int (1 : Int32)), .val (.ref w_NO_TZAAR)] []))
  refine Good.back (fun _ k => XS.iinc X6.here hx rfl (hb hby own_d1_36) rfl (l' := #[.val (.ref w_TOTT), .val .null, .val (.ref w_ENDINGS), .val (.int (5 : Int32)), .val (.int ((1 : Int32) + (1 : Int32))), .val (.ref w_NO_TZAAR)]) rfl k) ?_
  show Good p e below _ (T6.setTop (mkF m 39 #[.val (.ref w_TOTT), .val .null, .val (.ref w_ENDINGS), .val (.int (5 : Int32)), .val (.int ((1 : Int32) + (1 : Int32))), .val (.ref w_NO_TZAAR)] []))
  rw [show (((1 : Int32) + (1 : Int32)) : Int32) = (2 : Int32) from by decide]
  show Good p e below _ (T6.setTop (mkF m 39 #[.val (.ref w_TOTT), .val .null, .val (.ref w_ENDINGS), .val (.int (5 : Int32)), .val (.int (2 : Int32)), .val (.ref w_NO_TZAAR)] []))
  refine Good.back (fun _ k => XS.goto X6.here hx rfl (pc0 := 39) (pc' := 12) rfl (hb hby own_d1_39) (by decide) (by decide) k) ?_
  show Good p e below _ (T6.setTop (mkF m 12 #[.val (.ref w_TOTT), .val .null, .val (.ref w_ENDINGS), .val (.int (5 : Int32)), .val (.int (2 : Int32)), .val (.ref w_NO_TZAAR)] []))
  refine Good.back (fun _ k => XS.iload X6.here hx rfl (hb hby own_d1_12) rfl k) ?_
  show Good p e below _ (T6.setTop (mkF m 14 #[.val (.ref w_TOTT), .val .null, .val (.ref w_ENDINGS), .val (.int (5 : Int32)), .val (.int (2 : Int32)), .val (.ref w_NO_TZAAR)] [(.int (2 : Int32))]))
  refine Good.back (fun _ k => XS.iloadN X6.here hx rfl (hb hby own_d1_14) rfl k) ?_
  show Good p e below _ (T6.setTop (mkF m 15 #[.val (.ref w_TOTT), .val .null, .val (.ref w_ENDINGS), .val (.int (5 : Int32)), .val (.int (2 : Int32)), .val (.ref w_NO_TZAAR)] [(.int (5 : Int32)), (.int (2 : Int32))]))
  refine Good.back (fun _ k => XS.icmpNo X6.here hx rfl (hb hby own_d1_15) rfl (tlt (by decide : ((2 : Int32) < (5 : Int32)))).2.1 k) ?_
  show Good p e below _ (T6.setTop (mkF m 18 #[.val (.ref w_TOTT), .val .null, .val (.ref w_ENDINGS), .val (.int (5 : Int32)), .val (.int (2 : Int32)), .val (.ref w_NO_TZAAR)] []))
  refine Good.back (fun _ k => XS.aloadN X6.here hx rfl (hb hby own_d1_18) rfl rfl k) ?_
  show Good p e below _ (T6.setTop (mkF m 19 #[.val (.ref w_TOTT), .val .null, .val (.ref w_ENDINGS), .val (.int (5 : Int32)), .val (.int (2 : Int32)), .val (.ref w_NO_TZAAR)] [(.ref w_ENDINGS)]))
  refine Good.back (fun _ k => XS.iload X6.here hx rfl (hb hby own_d1_19) rfl k) ?_
  show Good p e below _ (T6.setTop (mkF m 21 #[.val (.ref w_TOTT), .val .null, .val (.ref w_ENDINGS), .val (.int (5 : Int32)), .val (.int (2 : Int32)), .val (.ref w_NO_TZAAR)] [(.int (2 : Int32)), (.ref w_ENDINGS)]))
  have fc7 := V_w_ENDINGS
  obtain ⟨cl7, Ar7, qk7, S7, N7', H7, G7⟩ := fc7
  have hin7 : ¬ ((2 : Int32) < 0 ∨ cl7.slots.size ≤ ((2 : Int32)).toNatClampNeg) := inb_of S7 ⟨by decide, by decide⟩
  have hat7 : cl7.slots[((2 : Int32)).toNatClampNeg]? = some (.ref w_NO_TZARRA) := Has.at H7 hin7 rfl
  refine Good.back (X6.aaload hx (j := (2 : Int32)) (v := (.ref w_NO_TZARRA)) (by rw [e6]; exact Ar7.1) (State.isArrayOf_alike hZ.alike Ar7.2.1) rfl Ar7.2.2 hin7 hat7 (g := (mkF m 21 #[.val (.ref w_TOTT), .val .null, .val (.ref w_ENDINGS), .val (.int (5 : Int32)), .val (.int (2 : Int32)), .val (.ref w_NO_TZAAR)] [(.int (2 : Int32)), (.ref w_ENDINGS)])) rfl rfl (hb hby own_d1_21)) ?_
  show Good p e below _ (T6.setTop (mkF m 22 #[.val (.ref w_TOTT), .val .null, .val (.ref w_ENDINGS), .val (.int (5 : Int32)), .val (.int (2 : Int32)), .val (.ref w_NO_TZAAR)] [(.ref w_NO_TZARRA)]))
  refine Good.back (fun _ k => XS.astore X6.here hx rfl (hb hby own_d1_22) rfl rfl (l' := #[.val (.ref w_TOTT), .val .null, .val (.ref w_ENDINGS), .val (.int (5 : Int32)), .val (.int (2 : Int32)), .val (.ref w_NO_TZARRA)]) rfl k) ?_
  show Good p e below _ (T6.setTop (mkF m 24 #[.val (.ref w_TOTT), .val .null, .val (.ref w_ENDINGS), .val (.int (5 : Int32)), .val (.int (2 : Int32)), .val (.ref w_NO_TZARRA)] []))
  refine Good.back (fun _ k => XS.aload X6.here hx rfl (hb hby own_d1_24) rfl rfl k) ?_
  show Good p e below _ (T6.setTop (mkF m 26 #[.val (.ref w_TOTT), .val .null, .val (.ref w_ENDINGS), .val (.int (5 : Int32)), .val (.int (2 : Int32)), .val (.ref w_NO_TZARRA)] [(.ref w_NO_TZARRA)]))
  obtain ⟨T8, X8, e8, st8⟩ := getF X6 hx hZ hown (host := "") (Or.inl (hw _ (List.mem_of_getElem? (i := 13) rfl))) Via.refl e6 F_lacked_w_NO_TZARRA (g := (mkF m 26 #[.val (.ref w_TOTT), .val .null, .val (.ref w_ENDINGS), .val (.int (5 : Int32)), .val (.int (2 : Int32)), .val (.ref w_NO_TZARRA)] [(.ref w_NO_TZARRA)])) rfl rfl (hb hby own_d1_26)
  refine Good.back st8 ?_
  show Good p e below _ (T8.setTop (mkF m 29 #[.val (.ref w_TOTT), .val .null, .val (.ref w_ENDINGS), .val (.int (5 : Int32)), .val (.int (2 : Int32)), .val (.ref w_NO_TZARRA)] [(.ref w_TZARRA)]))
  refine Good.back (fun _ k => XS.aloadN X8.here hx rfl (hb hby own_d1_29) rfl rfl k) ?_
  show Good p e below _ (T8.setTop (mkF m 30 #[.val (.ref w_TOTT), .val .null, .val (.ref w_ENDINGS), .val (.int (5 : Int32)), .val (.int (2 : Int32)), .val (.ref w_NO_TZARRA)] [(.ref w_TOTT), (.ref w_TZARRA)]))
  refine Good.back (fun _ k => Jvm.RoadKit.acmp (g := (mkF m 30 #[.val (.ref w_TOTT), .val .null, .val (.ref w_ENDINGS), .val (.int (5 : Int32)), .val (.int (2 : Int32)), .val (.ref w_NO_TZARRA)] [(.ref w_TOTT), (.ref w_TZARRA)])) X8 hx rfl rfl rfl (pc0 := 30) (pc' := 36) (same := false) rfl (hb hby own_d1_30) rfl (decide_eq_false fun q => (Ne.symm ne_w_TOTT_w_TZARRA) (Value.ref.inj q)) (by decide) (by decide) k) ?_
  show Good p e below _ (T8.setTop (mkF m 36 #[.val (.ref w_TOTT), .val .null, .val (.ref w_ENDINGS), .val (.int (5 : Int32)), .val (.int (2 : Int32)), .val (.ref w_NO_TZARRA)] []))
  refine Good.back (fun _ k => XS.iinc X8.here hx rfl (hb hby own_d1_36) rfl (l' := #[.val (.ref w_TOTT), .val .null, .val (.ref w_ENDINGS), .val (.int (5 : Int32)), .val (.int ((2 : Int32) + (1 : Int32))), .val (.ref w_NO_TZARRA)]) rfl k) ?_
  show Good p e below _ (T8.setTop (mkF m 39 #[.val (.ref w_TOTT), .val .null, .val (.ref w_ENDINGS), .val (.int (5 : Int32)), .val (.int ((2 : Int32) + (1 : Int32))), .val (.ref w_NO_TZARRA)] []))
  rw [show (((2 : Int32) + (1 : Int32)) : Int32) = (3 : Int32) from by decide]
  show Good p e below _ (T8.setTop (mkF m 39 #[.val (.ref w_TOTT), .val .null, .val (.ref w_ENDINGS), .val (.int (5 : Int32)), .val (.int (3 : Int32)), .val (.ref w_NO_TZARRA)] []))
  refine Good.back (fun _ k => XS.goto X8.here hx rfl (pc0 := 39) (pc' := 12) rfl (hb hby own_d1_39) (by decide) (by decide) k) ?_
  show Good p e below _ (T8.setTop (mkF m 12 #[.val (.ref w_TOTT), .val .null, .val (.ref w_ENDINGS), .val (.int (5 : Int32)), .val (.int (3 : Int32)), .val (.ref w_NO_TZARRA)] []))
  refine Good.back (fun _ k => XS.iload X8.here hx rfl (hb hby own_d1_12) rfl k) ?_
  show Good p e below _ (T8.setTop (mkF m 14 #[.val (.ref w_TOTT), .val .null, .val (.ref w_ENDINGS), .val (.int (5 : Int32)), .val (.int (3 : Int32)), .val (.ref w_NO_TZARRA)] [(.int (3 : Int32))]))
  refine Good.back (fun _ k => XS.iloadN X8.here hx rfl (hb hby own_d1_14) rfl k) ?_
  show Good p e below _ (T8.setTop (mkF m 15 #[.val (.ref w_TOTT), .val .null, .val (.ref w_ENDINGS), .val (.int (5 : Int32)), .val (.int (3 : Int32)), .val (.ref w_NO_TZARRA)] [(.int (5 : Int32)), (.int (3 : Int32))]))
  refine Good.back (fun _ k => XS.icmpNo X8.here hx rfl (hb hby own_d1_15) rfl (tlt (by decide : ((3 : Int32) < (5 : Int32)))).2.1 k) ?_
  show Good p e below _ (T8.setTop (mkF m 18 #[.val (.ref w_TOTT), .val .null, .val (.ref w_ENDINGS), .val (.int (5 : Int32)), .val (.int (3 : Int32)), .val (.ref w_NO_TZARRA)] []))
  refine Good.back (fun _ k => XS.aloadN X8.here hx rfl (hb hby own_d1_18) rfl rfl k) ?_
  show Good p e below _ (T8.setTop (mkF m 19 #[.val (.ref w_TOTT), .val .null, .val (.ref w_ENDINGS), .val (.int (5 : Int32)), .val (.int (3 : Int32)), .val (.ref w_NO_TZARRA)] [(.ref w_ENDINGS)]))
  refine Good.back (fun _ k => XS.iload X8.here hx rfl (hb hby own_d1_19) rfl k) ?_
  show Good p e below _ (T8.setTop (mkF m 21 #[.val (.ref w_TOTT), .val .null, .val (.ref w_ENDINGS), .val (.int (5 : Int32)), .val (.int (3 : Int32)), .val (.ref w_NO_TZARRA)] [(.int (3 : Int32)), (.ref w_ENDINGS)]))
  have fc9 := V_w_ENDINGS
  obtain ⟨cl9, Ar9, qk9, S9, N9', H9, G9⟩ := fc9
  have hin9 : ¬ ((3 : Int32) < 0 ∨ cl9.slots.size ≤ ((3 : Int32)).toNatClampNeg) := inb_of S9 ⟨by decide, by decide⟩
  have hat9 : cl9.slots[((3 : Int32)).toNatClampNeg]? = some (.ref w_NO_TOTT) := Has.at H9 hin9 rfl
  refine Good.back (X8.aaload hx (j := (3 : Int32)) (v := (.ref w_NO_TOTT)) (by rw [e8]; exact Ar9.1) (State.isArrayOf_alike hZ.alike Ar9.2.1) rfl Ar9.2.2 hin9 hat9 (g := (mkF m 21 #[.val (.ref w_TOTT), .val .null, .val (.ref w_ENDINGS), .val (.int (5 : Int32)), .val (.int (3 : Int32)), .val (.ref w_NO_TZARRA)] [(.int (3 : Int32)), (.ref w_ENDINGS)])) rfl rfl (hb hby own_d1_21)) ?_
  show Good p e below _ (T8.setTop (mkF m 22 #[.val (.ref w_TOTT), .val .null, .val (.ref w_ENDINGS), .val (.int (5 : Int32)), .val (.int (3 : Int32)), .val (.ref w_NO_TZARRA)] [(.ref w_NO_TOTT)]))
  refine Good.back (fun _ k => XS.astore X8.here hx rfl (hb hby own_d1_22) rfl rfl (l' := #[.val (.ref w_TOTT), .val .null, .val (.ref w_ENDINGS), .val (.int (5 : Int32)), .val (.int (3 : Int32)), .val (.ref w_NO_TOTT)]) rfl k) ?_
  show Good p e below _ (T8.setTop (mkF m 24 #[.val (.ref w_TOTT), .val .null, .val (.ref w_ENDINGS), .val (.int (5 : Int32)), .val (.int (3 : Int32)), .val (.ref w_NO_TOTT)] []))
  refine Good.back (fun _ k => XS.aload X8.here hx rfl (hb hby own_d1_24) rfl rfl k) ?_
  show Good p e below _ (T8.setTop (mkF m 26 #[.val (.ref w_TOTT), .val .null, .val (.ref w_ENDINGS), .val (.int (5 : Int32)), .val (.int (3 : Int32)), .val (.ref w_NO_TOTT)] [(.ref w_NO_TOTT)]))
  obtain ⟨T10, X10, e10, st10⟩ := getF X8 hx hZ hown (host := "") (Or.inl (hw _ (List.mem_of_getElem? (i := 13) rfl))) Via.refl e8 F_lacked_w_NO_TOTT (g := (mkF m 26 #[.val (.ref w_TOTT), .val .null, .val (.ref w_ENDINGS), .val (.int (5 : Int32)), .val (.int (3 : Int32)), .val (.ref w_NO_TOTT)] [(.ref w_NO_TOTT)])) rfl rfl (hb hby own_d1_26)
  refine Good.back st10 ?_
  show Good p e below _ (T10.setTop (mkF m 29 #[.val (.ref w_TOTT), .val .null, .val (.ref w_ENDINGS), .val (.int (5 : Int32)), .val (.int (3 : Int32)), .val (.ref w_NO_TOTT)] [(.ref w_TOTT)]))
  refine Good.back (fun _ k => XS.aloadN X10.here hx rfl (hb hby own_d1_29) rfl rfl k) ?_
  show Good p e below _ (T10.setTop (mkF m 30 #[.val (.ref w_TOTT), .val .null, .val (.ref w_ENDINGS), .val (.int (5 : Int32)), .val (.int (3 : Int32)), .val (.ref w_NO_TOTT)] [(.ref w_TOTT), (.ref w_TOTT)]))
  refine Good.back (fun _ k => Jvm.RoadKit.acmp (g := (mkF m 30 #[.val (.ref w_TOTT), .val .null, .val (.ref w_ENDINGS), .val (.int (5 : Int32)), .val (.int (3 : Int32)), .val (.ref w_NO_TOTT)] [(.ref w_TOTT), (.ref w_TOTT)])) X10 hx rfl rfl rfl (pc0 := 30) (pc' := 33) (same := true) rfl (hb hby own_d1_30) rfl (decide_eq_true rfl) (by decide) (by decide) k) ?_
  show Good p e below _ (T10.setTop (mkF m 33 #[.val (.ref w_TOTT), .val .null, .val (.ref w_ENDINGS), .val (.int (5 : Int32)), .val (.int (3 : Int32)), .val (.ref w_NO_TOTT)] []))
  refine Good.back (fun _ k => XS.aload X10.here hx rfl (hb hby own_d1_33) rfl rfl k) ?_
  show Good p e below _ (T10.setTop (mkF m 35 #[.val (.ref w_TOTT), .val .null, .val (.ref w_ENDINGS), .val (.int (5 : Int32)), .val (.int (3 : Int32)), .val (.ref w_NO_TOTT)] [(.ref w_NO_TOTT)]))
  refine Good.back (fun _ k => XS.astoreN X10.here hx rfl (hb hby own_d1_35) rfl rfl (l' := #[.val (.ref w_TOTT), .val (.ref w_NO_TOTT), .val (.ref w_ENDINGS), .val (.int (5 : Int32)), .val (.int (3 : Int32)), .val (.ref w_NO_TOTT)]) rfl k) ?_
  show Good p e below _ (T10.setTop (mkF m 36 #[.val (.ref w_TOTT), .val (.ref w_NO_TOTT), .val (.ref w_ENDINGS), .val (.int (5 : Int32)), .val (.int (3 : Int32)), .val (.ref w_NO_TOTT)] []))
  refine Good.back (fun _ k => XS.iinc X10.here hx rfl (hb hby own_d1_36) rfl (l' := #[.val (.ref w_TOTT), .val (.ref w_NO_TOTT), .val (.ref w_ENDINGS), .val (.int (5 : Int32)), .val (.int ((3 : Int32) + (1 : Int32))), .val (.ref w_NO_TOTT)]) rfl k) ?_
  show Good p e below _ (T10.setTop (mkF m 39 #[.val (.ref w_TOTT), .val (.ref w_NO_TOTT), .val (.ref w_ENDINGS), .val (.int (5 : Int32)), .val (.int ((3 : Int32) + (1 : Int32))), .val (.ref w_NO_TOTT)] []))
  rw [show (((3 : Int32) + (1 : Int32)) : Int32) = (4 : Int32) from by decide]
  show Good p e below _ (T10.setTop (mkF m 39 #[.val (.ref w_TOTT), .val (.ref w_NO_TOTT), .val (.ref w_ENDINGS), .val (.int (5 : Int32)), .val (.int (4 : Int32)), .val (.ref w_NO_TOTT)] []))
  refine Good.back (fun _ k => XS.goto X10.here hx rfl (pc0 := 39) (pc' := 12) rfl (hb hby own_d1_39) (by decide) (by decide) k) ?_
  show Good p e below _ (T10.setTop (mkF m 12 #[.val (.ref w_TOTT), .val (.ref w_NO_TOTT), .val (.ref w_ENDINGS), .val (.int (5 : Int32)), .val (.int (4 : Int32)), .val (.ref w_NO_TOTT)] []))
  refine Good.back (fun _ k => XS.iload X10.here hx rfl (hb hby own_d1_12) rfl k) ?_
  show Good p e below _ (T10.setTop (mkF m 14 #[.val (.ref w_TOTT), .val (.ref w_NO_TOTT), .val (.ref w_ENDINGS), .val (.int (5 : Int32)), .val (.int (4 : Int32)), .val (.ref w_NO_TOTT)] [(.int (4 : Int32))]))
  refine Good.back (fun _ k => XS.iloadN X10.here hx rfl (hb hby own_d1_14) rfl k) ?_
  show Good p e below _ (T10.setTop (mkF m 15 #[.val (.ref w_TOTT), .val (.ref w_NO_TOTT), .val (.ref w_ENDINGS), .val (.int (5 : Int32)), .val (.int (4 : Int32)), .val (.ref w_NO_TOTT)] [(.int (5 : Int32)), (.int (4 : Int32))]))
  refine Good.back (fun _ k => XS.icmpNo X10.here hx rfl (hb hby own_d1_15) rfl (tlt (by decide : ((4 : Int32) < (5 : Int32)))).2.1 k) ?_
  show Good p e below _ (T10.setTop (mkF m 18 #[.val (.ref w_TOTT), .val (.ref w_NO_TOTT), .val (.ref w_ENDINGS), .val (.int (5 : Int32)), .val (.int (4 : Int32)), .val (.ref w_NO_TOTT)] []))
  refine Good.back (fun _ k => XS.aloadN X10.here hx rfl (hb hby own_d1_18) rfl rfl k) ?_
  show Good p e below _ (T10.setTop (mkF m 19 #[.val (.ref w_TOTT), .val (.ref w_NO_TOTT), .val (.ref w_ENDINGS), .val (.int (5 : Int32)), .val (.int (4 : Int32)), .val (.ref w_NO_TOTT)] [(.ref w_ENDINGS)]))
  refine Good.back (fun _ k => XS.iload X10.here hx rfl (hb hby own_d1_19) rfl k) ?_
  show Good p e below _ (T10.setTop (mkF m 21 #[.val (.ref w_TOTT), .val (.ref w_NO_TOTT), .val (.ref w_ENDINGS), .val (.int (5 : Int32)), .val (.int (4 : Int32)), .val (.ref w_NO_TOTT)] [(.int (4 : Int32)), (.ref w_ENDINGS)]))
  have fc11 := V_w_ENDINGS
  obtain ⟨cl11, Ar11, qk11, S11, N11', H11, G11⟩ := fc11
  have hin11 : ¬ ((4 : Int32) < 0 ∨ cl11.slots.size ≤ ((4 : Int32)).toNatClampNeg) := inb_of S11 ⟨by decide, by decide⟩
  have hat11 : cl11.slots[((4 : Int32)).toNatClampNeg]? = some (.ref w_NO_CAPTURE) := Has.at H11 hin11 rfl
  refine Good.back (X10.aaload hx (j := (4 : Int32)) (v := (.ref w_NO_CAPTURE)) (by rw [e10]; exact Ar11.1) (State.isArrayOf_alike hZ.alike Ar11.2.1) rfl Ar11.2.2 hin11 hat11 (g := (mkF m 21 #[.val (.ref w_TOTT), .val (.ref w_NO_TOTT), .val (.ref w_ENDINGS), .val (.int (5 : Int32)), .val (.int (4 : Int32)), .val (.ref w_NO_TOTT)] [(.int (4 : Int32)), (.ref w_ENDINGS)])) rfl rfl (hb hby own_d1_21)) ?_
  show Good p e below _ (T10.setTop (mkF m 22 #[.val (.ref w_TOTT), .val (.ref w_NO_TOTT), .val (.ref w_ENDINGS), .val (.int (5 : Int32)), .val (.int (4 : Int32)), .val (.ref w_NO_TOTT)] [(.ref w_NO_CAPTURE)]))
  refine Good.back (fun _ k => XS.astore X10.here hx rfl (hb hby own_d1_22) rfl rfl (l' := #[.val (.ref w_TOTT), .val (.ref w_NO_TOTT), .val (.ref w_ENDINGS), .val (.int (5 : Int32)), .val (.int (4 : Int32)), .val (.ref w_NO_CAPTURE)]) rfl k) ?_
  show Good p e below _ (T10.setTop (mkF m 24 #[.val (.ref w_TOTT), .val (.ref w_NO_TOTT), .val (.ref w_ENDINGS), .val (.int (5 : Int32)), .val (.int (4 : Int32)), .val (.ref w_NO_CAPTURE)] []))
  refine Good.back (fun _ k => XS.aload X10.here hx rfl (hb hby own_d1_24) rfl rfl k) ?_
  show Good p e below _ (T10.setTop (mkF m 26 #[.val (.ref w_TOTT), .val (.ref w_NO_TOTT), .val (.ref w_ENDINGS), .val (.int (5 : Int32)), .val (.int (4 : Int32)), .val (.ref w_NO_CAPTURE)] [(.ref w_NO_CAPTURE)]))
  obtain ⟨T12, X12, e12, st12⟩ := getF X10 hx hZ hown (host := "") (Or.inl (hw _ (List.mem_of_getElem? (i := 13) rfl))) Via.refl e10 F_lacked_w_NO_CAPTURE (g := (mkF m 26 #[.val (.ref w_TOTT), .val (.ref w_NO_TOTT), .val (.ref w_ENDINGS), .val (.int (5 : Int32)), .val (.int (4 : Int32)), .val (.ref w_NO_CAPTURE)] [(.ref w_NO_CAPTURE)])) rfl rfl (hb hby own_d1_26)
  refine Good.back st12 ?_
  show Good p e below _ (T12.setTop (mkF m 29 #[.val (.ref w_TOTT), .val (.ref w_NO_TOTT), .val (.ref w_ENDINGS), .val (.int (5 : Int32)), .val (.int (4 : Int32)), .val (.ref w_NO_CAPTURE)] [.null]))
  refine Good.back (fun _ k => XS.aloadN X12.here hx rfl (hb hby own_d1_29) rfl rfl k) ?_
  show Good p e below _ (T12.setTop (mkF m 30 #[.val (.ref w_TOTT), .val (.ref w_NO_TOTT), .val (.ref w_ENDINGS), .val (.int (5 : Int32)), .val (.int (4 : Int32)), .val (.ref w_NO_CAPTURE)] [(.ref w_TOTT), .null]))
  refine Good.back (fun _ k => Jvm.RoadKit.acmp (g := (mkF m 30 #[.val (.ref w_TOTT), .val (.ref w_NO_TOTT), .val (.ref w_ENDINGS), .val (.int (5 : Int32)), .val (.int (4 : Int32)), .val (.ref w_NO_CAPTURE)] [(.ref w_TOTT), .null])) X12 hx rfl rfl rfl (pc0 := 30) (pc' := 36) (same := false) rfl (hb hby own_d1_30) rfl (decide_eq_false nofun) (by decide) (by decide) k) ?_
  show Good p e below _ (T12.setTop (mkF m 36 #[.val (.ref w_TOTT), .val (.ref w_NO_TOTT), .val (.ref w_ENDINGS), .val (.int (5 : Int32)), .val (.int (4 : Int32)), .val (.ref w_NO_CAPTURE)] []))
  refine Good.back (fun _ k => XS.iinc X12.here hx rfl (hb hby own_d1_36) rfl (l' := #[.val (.ref w_TOTT), .val (.ref w_NO_TOTT), .val (.ref w_ENDINGS), .val (.int (5 : Int32)), .val (.int ((4 : Int32) + (1 : Int32))), .val (.ref w_NO_CAPTURE)]) rfl k) ?_
  show Good p e below _ (T12.setTop (mkF m 39 #[.val (.ref w_TOTT), .val (.ref w_NO_TOTT), .val (.ref w_ENDINGS), .val (.int (5 : Int32)), .val (.int ((4 : Int32) + (1 : Int32))), .val (.ref w_NO_CAPTURE)] []))
  rw [show (((4 : Int32) + (1 : Int32)) : Int32) = (5 : Int32) from by decide]
  show Good p e below _ (T12.setTop (mkF m 39 #[.val (.ref w_TOTT), .val (.ref w_NO_TOTT), .val (.ref w_ENDINGS), .val (.int (5 : Int32)), .val (.int (5 : Int32)), .val (.ref w_NO_CAPTURE)] []))
  refine Good.back (fun _ k => XS.goto X12.here hx rfl (pc0 := 39) (pc' := 12) rfl (hb hby own_d1_39) (by decide) (by decide) k) ?_
  show Good p e below _ (T12.setTop (mkF m 12 #[.val (.ref w_TOTT), .val (.ref w_NO_TOTT), .val (.ref w_ENDINGS), .val (.int (5 : Int32)), .val (.int (5 : Int32)), .val (.ref w_NO_CAPTURE)] []))
  refine Good.back (fun _ k => XS.iload X12.here hx rfl (hb hby own_d1_12) rfl k) ?_
  show Good p e below _ (T12.setTop (mkF m 14 #[.val (.ref w_TOTT), .val (.ref w_NO_TOTT), .val (.ref w_ENDINGS), .val (.int (5 : Int32)), .val (.int (5 : Int32)), .val (.ref w_NO_CAPTURE)] [(.int (5 : Int32))]))
  refine Good.back (fun _ k => XS.iloadN X12.here hx rfl (hb hby own_d1_14) rfl k) ?_
  show Good p e below _ (T12.setTop (mkF m 15 #[.val (.ref w_TOTT), .val (.ref w_NO_TOTT), .val (.ref w_ENDINGS), .val (.int (5 : Int32)), .val (.int (5 : Int32)), .val (.ref w_NO_CAPTURE)] [(.int (5 : Int32)), (.int (5 : Int32))]))
  refine Good.back (fun _ k => XS.icmpYes X12.here hx rfl (pc0 := 15) (pc' := 42) rfl (hb hby own_d1_15) rfl (flt (by decide : ¬ ((5 : Int32) < (5 : Int32)))).2.1 (by decide) (by decide) k) ?_
  show Good p e below _ (T12.setTop (mkF m 42 #[.val (.ref w_TOTT), .val (.ref w_NO_TOTT), .val (.ref w_ENDINGS), .val (.int (5 : Int32)), .val (.int (5 : Int32)), .val (.ref w_NO_CAPTURE)] []))
  refine Good.back (fun _ k => XS.aloadN X12.here hx rfl (hb hby own_d1_42) rfl rfl k) ?_
  show Good p e below _ (T12.setTop (mkF m 43 #[.val (.ref w_TOTT), .val (.ref w_NO_TOTT), .val (.ref w_ENDINGS), .val (.int (5 : Int32)), .val (.int (5 : Int32)), .val (.ref w_NO_CAPTURE)] [(.ref w_NO_TOTT)]))
  obtain ⟨fs13, hr13, hrun13, hended13, hW13, hsame13⟩ := X12.leave (v := some (.ref w_NO_TOTT)) (fun h => by rw [Bd.returns] at h; cases h)
  refine Good.done (retOut X12 hx Bd.returns rfl (Or.inr (Or.inr (Or.inr (Or.inr ⟨rfl, rfl, rfl⟩)))) (hb hby own_d1_43) hr13) hrun13 hended13 ⟨_, _, rfl, ?_, ⟨_, rfl⟩, hW13, hsame13.mono (by decide) (by decide)⟩
  show Q1_TOTT Z w_TOTT w_NO_TOTT w_ENDINGS w_IN_PROGRESS w_NO_TZAAR w_TZAAR w_NO_TZARRA w_TZARRA w_NO_CAPTURE kc_w_ENDINGS h0 n0 _ T12.heap _
  rw [e12]
  exact ⟨rfl, N0, rfl⟩
theorem own_ef_1_TZARRA (m : MethodId) (x0 : Addr) : entryFrame m #[(.ref x0)] 6 = mkF m 0 #[.val (.ref x0), .unset, .unset, .unset, .unset, .unset] [] := by first | (simp [entryFrame, mkF, argsToLocals, Value.category]; done) | rfl
def Q1_TZARRA (Z : State) (w_TOTT : Addr) (w_NO_TOTT : Addr) (w_ENDINGS : Addr) (w_IN_PROGRESS : Addr) (w_NO_TZAAR : Addr) (w_TZAAR : Addr) (w_NO_TZARRA : Addr) (w_TZARRA : Addr) (w_NO_CAPTURE : Addr) (kc_w_ENDINGS : ClassId) (h0 : Heap) (n0 : Nat) (v : Option Value) (h : Heap) (L : List Loc) : Prop := v = some (.ref w_NO_TZARRA) ∧ Fr n0 L ∧ h = h0
set_option maxRecDepth 65536 in
set_option maxHeartbeats 40000000 in
theorem rm1_TZARRA (l : Launch) (Z : State) (a0 : Array Value) (hw : ∀ d ∈ tables_1, d.before a0 Z = true) (ws : List Jvm.Cond) (w_TOTT : Addr) (w_NO_TOTT : Addr) (w_ENDINGS : Addr) (w_IN_PROGRESS : Addr) (w_NO_TZAAR : Addr) (w_TZAAR : Addr) (w_NO_TZARRA : Addr) (w_TZARRA : Addr) (w_NO_CAPTURE : Addr) (kc_w_ENDINGS : ClassId) (h0 : Heap) (n0 : Nat) (Z0 : n0 ≤ h0.size) (S_w_TOTT : Sta Z h0 "com/example/trinode/trinode/tzaar/PieceType" "TOTT" "Lcom/example/trinode/trinode/tzaar/PieceType;" (.ref w_TOTT)) (E_w_TOTT : Exa Z h0 w_TOTT "com/example/trinode/trinode/tzaar/PieceType") (S_w_NO_TOTT : Sta Z h0 "com/example/trinode/trinode/tzaar/Ending" "NO_TOTT" "Lcom/example/trinode/trinode/tzaar/Ending;" (.ref w_NO_TOTT)) (E_w_NO_TOTT : Exa Z h0 w_NO_TOTT "com/example/trinode/trinode/tzaar/Ending") (S_w_ENDINGS : Sta Z h0 "com/example/trinode/trinode/tzaar/Ending" "ENDINGS" "[Lcom/example/trinode/trinode/tzaar/Ending;" (.ref w_ENDINGS)) (S_w_IN_PROGRESS : Sta Z h0 "com/example/trinode/trinode/tzaar/Ending" "IN_PROGRESS" "Lcom/example/trinode/trinode/tzaar/Ending;" (.ref w_IN_PROGRESS)) (E_w_IN_PROGRESS : Exa Z h0 w_IN_PROGRESS "com/example/trinode/trinode/tzaar/Ending") (S_w_NO_TZAAR : Sta Z h0 "com/example/trinode/trinode/tzaar/Ending" "NO_TZAAR" "Lcom/example/trinode/trinode/tzaar/Ending;" (.ref w_NO_TZAAR)) (E_w_NO_TZAAR : Exa Z h0 w_NO_TZAAR "com/example/trinode/trinode/tzaar/Ending") (S_w_TZAAR : Sta Z h0 "com/example/trinode/trinode/tzaar/PieceType" "TZAAR" "Lcom/example/trinode/trinode/tzaar/PieceType;" (.ref w_TZAAR)) (E_w_TZAAR : Exa Z h0 w_TZAAR "com/example/trinode/trinode/tzaar/PieceType") (S_w_NO_TZARRA : Sta Z h0 "com/example/trinode/trinode/tzaar/Ending" "NO_TZARRA" "Lcom/example/trinode/trinode/tzaar/Ending;" (.ref w_NO_TZARRA)) (E_w_NO_TZARRA : Exa Z h0 w_NO_TZARRA "com/example/trinode/trinode/tzaar/Ending") (S_w_TZARRA : Sta Z h0 "com/example/trinode/trinode/tzaar/PieceType" "TZARRA" "Lcom/example/trinode/trinode/tzaar/PieceType;" (.ref w_TZARRA)) (E_w_TZARRA : Exa Z h0 w_TZARRA "com/example/trinode/trinode/tzaar/PieceType") (S_w_NO_CAPTURE : Sta Z h0 "com/example/trinode/trinode/tzaar/Ending" "NO_CAPTURE" "Lcom/example/trinode/trinode/tzaar/Ending;" (.ref w_NO_CAPTURE)) (E_w_NO_CAPTURE : Exa Z h0 w_NO_CAPTURE "com/example/trinode/trinode/tzaar/Ending") (F_lacked_w_IN_PROGRESS : Fld Z h0 w_IN_PROGRESS "com/example/trinode/trinode/tzaar/Ending" "lacked" "Lcom/example/trinode/trinode/tzaar/PieceType;" .null) (F_lacked_w_NO_TZAAR : Fld Z h0 w_NO_TZAAR "com/example/trinode/trinode/tzaar/Ending" "lacked" "Lcom/example/trinode/trinode/tzaar/PieceType;" (.ref w_TZAAR)) (F_ordinal_w_TZAAR : Fld Z h0 w_TZAAR "java/lang/Enum" "ordinal" "I" (.int (2 : Int32))) (F_ordinal_w_TOTT : Fld Z h0 w_TOTT "java/lang/Enum" "ordinal" "I" (.int (0 : Int32))) (F_lacked_w_NO_TZARRA : Fld Z h0 w_NO_TZARRA "com/example/trinode/trinode/tzaar/Ending" "lacked" "Lcom/example/trinode/trinode/tzaar/PieceType;" (.ref w_TZARRA)) (F_ordinal_w_TZARRA : Fld Z h0 w_TZARRA "java/lang/Enum" "ordinal" "I" (.int (1 : Int32))) (F_lacked_w_NO_TOTT : Fld Z h0 w_NO_TOTT "com/example/trinode/trinode/tzaar/Ending" "lacked" "Lcom/example/trinode/trinode/tzaar/PieceType;" (.ref w_TOTT)) (F_lacked_w_NO_CAPTURE : Fld Z h0 w_NO_CAPTURE "com/example/trinode/trinode/tzaar/Ending" "lacked" "Lcom/example/trinode/trinode/tzaar/PieceType;" .null) (V_w_ENDINGS : Arv Z h0 w_ENDINGS kc_w_ENDINGS (.object "com/example/trinode/trinode/tzaar/Ending") (5 : Int32) [(.ref w_IN_PROGRESS), (.ref w_NO_TZAAR), (.ref w_NO_TZARRA), (.ref w_NO_TOTT), (.ref w_NO_CAPTURE)] .null) (ne_w_TZAAR_w_TOTT : w_TZAAR ≠ w_TOTT) (ne_w_TZAAR_w_TZARRA : w_TZAAR ≠ w_TZARRA) (ne_w_TOTT_w_TZARRA : w_TOTT ≠ w_TZARRA) :
    MetFree l (⟨"com/example/trinode/trinode/tzaar/Ending", "without", "(Lcom/example/trinode/trinode/tzaar/PieceType;)Lcom/example/trinode/trinode/tzaar/Ending;"⟩ : MethodName) (head1 (Jvm.Cond.code (⟨"com/example/trinode/trinode/tzaar/Ending", "without", "(Lcom/example/trinode/trinode/tzaar/PieceType;)Lcom/example/trinode/trinode/tzaar/Ending;"⟩ : MethodName) prog_40_method_4_code 6 (some (.object "com/example/trinode/trinode/tzaar/Ending")) :: ws) ({ frames := 0, cells := 0, slots := 0, locals := 0 } : Room)) (fun a U => a = #[(.ref w_TZARRA)] ∧ Z.Warmed39 U.vm ∧ U.heap = h0) (fun _ _ _ _ _ => True) (fun _ U o U' => ∃ v L, o = .returned v ∧ Q1_TZARRA Z w_TOTT w_NO_TOTT w_ENDINGS w_IN_PROGRESS w_NO_TZAAR w_TZAAR w_NO_TZARRA w_TZARRA w_NO_CAPTURE kc_w_ENDINGS h0 n0 v U'.heap L ∧ FrameEnd U o U' L ({ frames := 0, cells := 0, slots := 0, locals := 0 } : Room).cells ({ frames := 0, cells := 0, slots := 0, locals := 0 } : Room).slots) := by
  refine MetFree.of_bodySF (plainFor_of_name own_pn0) hisR ?_
  intro p e s m args below meth c s₁ Bd hml0 hP hK
  obtain ⟨rfl, hZ, hh⟩ := hP
  have hx := Bd.exec
  have hby := Bd.bytes
  have hml : c.maxLocals = 6 := hml0
  have hown : s.vm.findClass "com/example/trinode/trinode/tzaar/Ending" = some m.cls := findClass_of_methodNamed Bd.named
  have hnm := (name_of_methodNamed Bd.named Bd.method).1
  have X0 : Stand p l e ({ frames := 0, cells := 0, slots := 0, locals := 0 } : Room) s m #[(.ref w_TZARRA)] below meth c s₁ [] 0 0 := Stand.of_body Bd
  have e0 : s₁.heap = h0 := by rw [← hh, Bd.state]; rfl
  have N0 := Fr.nil n0
  show Good p e below (fun o U' => ∃ v L, o = .returned v ∧ Q1_TZARRA Z w_TOTT w_NO_TOTT w_ENDINGS w_IN_PROGRESS w_NO_TZAAR w_TZAAR w_NO_TZARRA w_TZARRA w_NO_CAPTURE kc_w_ENDINGS h0 n0 v U'.heap L ∧ FrameEnd s o U' L ({ frames := 0, cells := 0, slots := 0, locals := 0 } : Room).cells ({ frames := 0, cells := 0, slots := 0, locals := 0 } : Room).slots) _
  refine Good.back (S' := s₁.setTop (mkF m 0 #[.val (.ref w_TZARRA), .unset, .unset, .unset, .unset, .unset] [])) (fun t k => castTop (own_ef_1_TZARRA m w_TZARRA) k) ?_
  show Good p e below _ (s₁.setTop (mkF m 0 #[.val (.ref w_TZARRA), .unset, .unset, .unset, .unset, .unset] []))
  refine Good.back (fun _ k => XS.aconstNull X0.here hx rfl (hb hby own_d1_0) k) ?_
  show Good p e below _ (s₁.setTop (mkF m 1 #[.val (.ref w_TZARRA), .unset, .unset, .unset, .unset, .unset] [.null]))
  refine Good.back (fun _ k => XS.astoreN X0.here hx rfl (hb hby own_d1_1) rfl rfl (l' := #[.val (.ref w_TZARRA), .val .null, .unset, .unset, .unset, .unset]) rfl k) ?_
  show Good p e below _ (s₁.setTop (mkF m 2 #[.val (.ref w_TZARRA), .val .null, .unset, .unset, .unset, .unset] []))
  obtain ⟨T1, X1, e1, st1⟩ := getS2 X0 hx hZ hown (host := "") (Or.inl (hw _ (List.mem_of_getElem? (i := 10) rfl))) Via.refl e0 S_w_ENDINGS (g := (mkF m 2 #[.val (.ref w_TZARRA), .val .null, .unset, .unset, .unset, .unset] [])) rfl (hb hby own_d1_2)
  refine Good.back st1 ?_
  show Good p e below _ (T1.setTop (mkF m 5 #[.val (.ref w_TZARRA), .val .null, .unset, .unset, .unset, .unset] [(.ref w_ENDINGS)]))
  refine Good.back (fun _ k => XS.astoreN X1.here hx rfl (hb hby own_d1_5) rfl rfl (l' := #[.val (.ref w_TZARRA), .val .null, .val (.ref w_ENDINGS), .unset, .unset, .unset]) rfl k) ?_
  show Good p e below _ (T1.setTop (mkF m 6 #[.val (.ref w_TZARRA), .val .null, .val (.ref w_ENDINGS), .unset, .unset, .unset] []))
  refine Good.back (fun _ k => XS.aloadN X1.here hx rfl (hb hby own_d1_6) rfl rfl k) ?_
  show Good p e below _ (T1.setTop (mkF m 7 #[.val (.ref w_TZARRA), .val .null, .val (.ref w_ENDINGS), .unset, .unset, .unset] [(.ref w_ENDINGS)]))
  have fc2 := V_w_ENDINGS
  obtain ⟨cl2, Ar2, qk2, S2, N2', H2, G2⟩ := fc2
  refine Good.back (X1.arraylength hx (by rw [e1]; exact Ar2.1) (State.isArrayOf_alike hZ.alike Ar2.2.1) (g := (mkF m 7 #[.val (.ref w_TZARRA), .val .null, .val (.ref w_ENDINGS), .unset, .unset, .unset] [(.ref w_ENDINGS)])) rfl rfl (hb hby own_d1_7)) ?_
  rw [len_of S2 N2']
  show Good p e below _ (T1.setTop (mkF m 8 #[.val (.ref w_TZARRA), .val .null, .val (.ref w_ENDINGS), .unset, .unset, .unset] [(.int (5 : Int32))]))
  refine Good.back (fun _ k => XS.istoreN X1.here hx rfl (hb hby own_d1_8) rfl (l' := #[.val (.ref w_TZARRA), .val .null, .val (.ref w_ENDINGS), .val (.int (5 : Int32)), .unset, .unset]) rfl k) ?_
  show Good p e below _ (T1.setTop (mkF m 9 #[.val (.ref w_TZARRA), .val .null, .val (.ref w_ENDINGS), .val (.int (5 : Int32)), .unset, .unset] []))
  refine Good.back (fun _ k => XS.iconst X1.here hx rfl (hb hby own_d1_9) k) ?_
  show Good p e below _ (T1.setTop (mkF m 10 #[.val (.ref w_TZARRA), .val .null, .val (.ref w_ENDINGS), .val (.int (5 : Int32)), .unset, .unset] [(.int (0 : Int32))]))
  refine Good.back (fun _ k => XS.istore X1.here hx rfl (hb hby own_d1_10) rfl (l' := #[.val (.ref w_TZARRA), .val .null, .val (.ref w_ENDINGS), .val (.int (5 : Int32)), .val (.int (0 : Int32)), .unset]) rfl k) ?_
  show Good p e below _ (T1.setTop (mkF m 12 #[.val (.ref w_TZARRA), .val .null, .val (.ref w_ENDINGS), .val (.int (5 : Int32)), .val (.int (0 : Int32)), .unset] []))
  refine Good.back (fun _ k => XS.iload X1.here hx rfl (hb hby own_d1_12) rfl k) ?_
  show Good p e below _ (T1.setTop (mkF m 14 #[.val (.ref w_TZARRA), .val .null, .val (.ref w_ENDINGS), .val (.int (5 : Int32)), .val (.int (0 : Int32)), .unset] [(.int (0 : Int32))]))
  refine Good.back (fun _ k => XS.iloadN X1.here hx rfl (hb hby own_d1_14) rfl k) ?_
  show Good p e below _ (T1.setTop (mkF m 15 #[.val (.ref w_TZARRA), .val .null, .val (.ref w_ENDINGS), .val (.int (5 : Int32)), .val (.int (0 : Int32)), .unset] [(.int (5 : Int32)), (.int (0 : Int32))]))
  refine Good.back (fun _ k => XS.icmpNo X1.here hx rfl (hb hby own_d1_15) rfl (tlt (by decide : ((0 : Int32) < (5 : Int32)))).2.1 k) ?_
  show Good p e below _ (T1.setTop (mkF m 18 #[.val (.ref w_TZARRA), .val .null, .val (.ref w_ENDINGS), .val (.int (5 : Int32)), .val (.int (0 : Int32)), .unset] []))
  refine Good.back (fun _ k => XS.aloadN X1.here hx rfl (hb hby own_d1_18) rfl rfl k) ?_
  show Good p e below _ (T1.setTop (mkF m 19 #[.val (.ref w_TZARRA), .val .null, .val (.ref w_ENDINGS), .val (.int (5 : Int32)), .val (.int (0 : Int32)), .unset] [(.ref w_ENDINGS)]))
  refine Good.back (fun _ k => XS.iload X1.here hx rfl (hb hby own_d1_19) rfl k) ?_
  show Good p e below _ (T1.setTop (mkF m 21 #[.val (.ref w_TZARRA), .val .null, .val (.ref w_ENDINGS), .val (.int (5 : Int32)), .val (.int (0 : Int32)), .unset] [(.int (0 : Int32)), (.ref w_ENDINGS)]))
  have fc3 := V_w_ENDINGS
  obtain ⟨cl3, Ar3, qk3, S3, N3', H3, G3⟩ := fc3
  have hin3 : ¬ ((0 : Int32) < 0 ∨ cl3.slots.size ≤ ((0 : Int32)).toNatClampNeg) := inb_of S3 ⟨by decide, by decide⟩
  have hat3 : cl3.slots[((0 : Int32)).toNatClampNeg]? = some (.ref w_IN_PROGRESS) := Has.at H3 hin3 rfl
  refine Good.back (X1.aaload hx (j := (0 : Int32)) (v := (.ref w_IN_PROGRESS)) (by rw [e1]; exact Ar3.1) (State.isArrayOf_alike hZ.alike Ar3.2.1) rfl Ar3.2.2 hin3 hat3 (g := (mkF m 21 #[.val (.ref w_TZARRA), .val .null, .val (.ref w_ENDINGS), .val (.int (5 : Int32)), .val (.int (0 : Int32)), .unset] [(.int (0 : Int32)), (.ref w_ENDINGS)])) rfl rfl (hb hby own_d1_21)) ?_
  show Good p e below _ (T1.setTop (mkF m 22 #[.val (.ref w_TZARRA), .val .null, .val (.ref w_ENDINGS), .val (.int (5 : Int32)), .val (.int (0 : Int32)), .unset] [(.ref w_IN_PROGRESS)]))
  refine Good.back (fun _ k => XS.astore X1.here hx rfl (hb hby own_d1_22) rfl rfl (l' := #[.val (.ref w_TZARRA), .val .null, .val (.ref w_ENDINGS), .val (.int (5 : Int32)), .val (.int (0 : Int32)), .val (.ref w_IN_PROGRESS)]) rfl k) ?_
  show Good p e below _ (T1.setTop (mkF m 24 #[.val (.ref w_TZARRA), .val .null, .val (.ref w_ENDINGS), .val (.int (5 : Int32)), .val (.int (0 : Int32)), .val (.ref w_IN_PROGRESS)] []))
  refine Good.back (fun _ k => XS.aload X1.here hx rfl (hb hby own_d1_24) rfl rfl k) ?_
  show Good p e below _ (T1.setTop (mkF m 26 #[.val (.ref w_TZARRA), .val .null, .val (.ref w_ENDINGS), .val (.int (5 : Int32)), .val (.int (0 : Int32)), .val (.ref w_IN_PROGRESS)] [(.ref w_IN_PROGRESS)]))
  obtain ⟨T4, X4, e4, st4⟩ := getF X1 hx hZ hown (host := "") (Or.inl (hw _ (List.mem_of_getElem? (i := 13) rfl))) Via.refl e1 F_lacked_w_IN_PROGRESS (g := (mkF m 26 #[.val (.ref w_TZARRA), .val .null, .val (.ref w_ENDINGS), .val (.int (5 : Int32)), .val (.int (0 : Int32)), .val (.ref w_IN_PROGRESS)] [(.ref w_IN_PROGRESS)])) rfl rfl (hb hby own_d1_26)
  refine Good.back st4 ?_
  show Good p e below _ (T4.setTop (mkF m 29 #[.val (.ref w_TZARRA), .val .null, .val (.ref w_ENDINGS), .val (.int (5 : Int32)), .val (.int (0 : Int32)), .val (.ref w_IN_PROGRESS)] [.null]))
  refine Good.back (fun _ k => XS.aloadN X4.here hx rfl (hb hby own_d1_29) rfl rfl k) ?_
  show Good p e below _ (T4.setTop (mkF m 30 #[.val (.ref w_TZARRA), .val .null, .val (.ref w_ENDINGS), .val (.int (5 : Int32)), .val (.int (0 : Int32)), .val (.ref w_IN_PROGRESS)] [(.ref w_TZARRA), .null]))
  refine Good.back (fun _ k => Jvm.RoadKit.acmp (g := (mkF m 30 #[.val (.ref w_TZARRA), .val .null, .val (.ref w_ENDINGS), .val (.int (5 : Int32)), .val (.int (0 : Int32)), .val (.ref w_IN_PROGRESS)] [(.ref w_TZARRA), .null])) X4 hx rfl rfl rfl (pc0 := 30) (pc' := 36) (same := false) rfl (hb hby own_d1_30) rfl (decide_eq_false nofun) (by decide) (by decide) k) ?_
  show Good p e below _ (T4.setTop (mkF m 36 #[.val (.ref w_TZARRA), .val .null, .val (.ref w_ENDINGS), .val (.int (5 : Int32)), .val (.int (0 : Int32)), .val (.ref w_IN_PROGRESS)] []))
  refine Good.back (fun _ k => XS.iinc X4.here hx rfl (hb hby own_d1_36) rfl (l' := #[.val (.ref w_TZARRA), .val .null, .val (.ref w_ENDINGS), .val (.int (5 : Int32)), .val (.int ((0 : Int32) + (1 : Int32))), .val (.ref w_IN_PROGRESS)]) rfl k) ?_
  show Good p e below _ (T4.setTop (mkF m 39 #[.val (.ref w_TZARRA), .val .null, .val (.ref w_ENDINGS), .val (.int (5 : Int32)), .val (.int ((0 : Int32) + (1 : Int32))), .val (.ref w_IN_PROGRESS)] []))
  rw [show (((0 : Int32) + (1 : Int32)) : Int32) = (1 : Int32) from by decide]
  show Good p e below _ (T4.setTop (mkF m 39 #[.val (.ref w_TZARRA), .val .null, .val (.ref w_ENDINGS), .val (.int (5 : Int32)), .val (.int (1 : Int32)), .val (.ref w_IN_PROGRESS)] []))
  refine Good.back (fun _ k => XS.goto X4.here hx rfl (pc0 := 39) (pc' := 12) rfl (hb hby own_d1_39) (by decide) (by decide) k) ?_
  show Good p e below _ (T4.setTop (mkF m 12 #[.val (.ref w_TZARRA), .val .null, .val (.ref w_ENDINGS), .val (.int (5 : Int32)), .val (.int (1 : Int32)), .val (.ref w_IN_PROGRESS)] []))
  refine Good.back (fun _ k => XS.iload X4.here hx rfl (hb hby own_d1_12) rfl k) ?_
  show Good p e below _ (T4.setTop (mkF m 14 #[.val (.ref w_TZARRA), .val .null, .val (.ref w_ENDINGS), .val (.int (5 : Int32)), .val (.int (1 : Int32)), .val (.ref w_IN_PROGRESS)] [(.int (1 : Int32))]))
  refine Good.back (fun _ k => XS.iloadN X4.here hx rfl (hb hby own_d1_14) rfl k) ?_
  show Good p e below _ (T4.setTop (mkF m 15 #[.val (.ref w_TZARRA), .val .null, .val (.ref w_ENDINGS), .val (.int (5 : Int32)), .val (.int (1 : Int32)), .val (.ref w_IN_PROGRESS)] [(.int (5 : Int32)), (.int (1 : Int32))]))
  refine Good.back (fun _ k => XS.icmpNo X4.here hx rfl (hb hby own_d1_15) rfl (tlt (by decide : ((1 : Int32) < (5 : Int32)))).2.1 k) ?_
  show Good p e below _ (T4.setTop (mkF m 18 #[.val (.ref w_TZARRA), .val .null, .val (.ref w_ENDINGS), .val (.int (5 : Int32)), .val (.int (1 : Int32)), .val (.ref w_IN_PROGRESS)] []))
  refine Good.back (fun _ k => XS.aloadN X4.here hx rfl (hb hby own_d1_18) rfl rfl k) ?_
  show Good p e below _ (T4.setTop (mkF m 19 #[.val (.ref w_TZARRA), .val .null, .val (.ref w_ENDINGS), .val (.int (5 : Int32)), .val (.int (1 : Int32)), .val (.ref w_IN_PROGRESS)] [(.ref w_ENDINGS)]))
  refine Good.back (fun _ k => XS.iload X4.here hx rfl (hb hby own_d1_19) rfl k) ?_
  show Good p e below _ (T4.setTop (mkF m 21 #[.val (.ref w_TZARRA), .val .null, .val (.ref w_ENDINGS), .val (.int (5 : Int32)), .val (.int (1 : Int32)), .val (.ref w_IN_PROGRESS)] [(.int (1 : Int32)), (.ref w_ENDINGS)]))
  have fc5 := V_w_ENDINGS
  obtain ⟨cl5, Ar5, qk5, S5, N5', H5, G5⟩ := fc5
  have hin5 : ¬ ((1 : Int32) < 0 ∨ cl5.slots.size ≤ ((1 : Int32)).toNatClampNeg) := inb_of S5 ⟨by decide, by decide⟩
  have hat5 : cl5.slots[((1 : Int32)).toNatClampNeg]? = some (.ref w_NO_TZAAR) := Has.at H5 hin5 rfl
  refine Good.back (X4.aaload hx (j := (1 : Int32)) (v := (.ref w_NO_TZAAR)) (by rw [e4]; exact Ar5.1) (State.isArrayOf_alike hZ.alike Ar5.2.1) rfl Ar5.2.2 hin5 hat5 (g := (mkF m 21 #[.val (.ref w_TZARRA), .val .null, .val (.ref w_ENDINGS), .val (.int (5 : Int32)), .val (.int (1 : Int32)), .val (.ref w_IN_PROGRESS)] [(.int (1 : Int32)), (.ref w_ENDINGS)])) rfl rfl (hb hby own_d1_21)) ?_
  show Good p e below _ (T4.setTop (mkF m 22 #[.val (.ref w_TZARRA), .val .null, .val (.ref w_ENDINGS), .val (.int (5 : Int32)), .val (.int (1 : Int32)), .val (.ref w_IN_PROGRESS)] [(.ref w_NO_TZAAR)]))
  refine Good.back (fun _ k => XS.astore X4.here hx rfl (hb hby own_d1_22) rfl rfl (l' := #[.val (.ref w_TZARRA), .val .null, .val (.ref w_ENDINGS), .val (.int (5 : Int32)), .val (.int (1 : Int32)), .val (.ref w_NO_TZAAR)]) rfl k) ?_
  show Good p e below _ (T4.setTop (mkF m 24 #[.val (.ref w_TZARRA), .val .null, .val (.ref w_ENDINGS), .val (.int (5 : Int32)), .val (.int (1 : Int32)), .val (.ref w_NO_TZAAR)] []))
  refine Good.back (fun _ k => XS.aload X4.here hx rfl (hb hby own_d1_24) rfl rfl k) ?_
  show Good p e below _ (T4.setTop (mkF m 26 #[.val (.ref w_TZARRA), .val .null, .val (.ref w_ENDINGS), .val (.int (5 : Int32)), .val (.int (1 : Int32)), .val (.ref w_NO_TZAAR)] [(.ref w_NO_TZAAR)]))
  obtain ⟨T6, X6, e6, st6⟩ := getF X4 hx hZ hown (host := "") (Or.inl (hw _ (List.mem_of_getElem? (i := 13) rfl))) Via.refl e4 F_lacked_w_NO_TZAAR (g := (mkF m 26 #[.val (.ref w_TZARRA), .val .null, .val (.ref w_ENDINGS), .val (.int (5 : Int32)), .val (.int (1 : Int32)), .val (.ref w_NO_TZAAR)] [(.ref w_NO_TZAAR)])) rfl rfl (hb hby own_d1_26)
  refine Good.back st6 ?_
  show Good p e below _ (T6.setTop (mkF m 29 #[.val (.ref w_TZARRA), .val .null, .val (.ref w_ENDINGS), .val (.int (5 : Int32)), .val (.int (1 : Int32)), .val (.ref w_NO_TZAAR)] [(.ref w_TZAAR)]))
  refine Good.back (fun _ k => XS.aloadN X6.here hx rfl (hb hby own_d1_29) rfl rfl k) ?_
  show Good p e below _ (T6.setTop (mkF m 30 #[.val (.ref w_TZARRA), .val .null, .val (.ref w_ENDINGS), .val (.int (5 : Int32)), .val (.int (1 : Int32)), .val (.ref w_NO_TZAAR)] [(.ref w_TZARRA), (.ref w_TZAAR)]))
  refine Good.back (fun _ k => Jvm.RoadKit.acmp (g := (mkF m 30 #[.val (.ref w_TZARRA), .val .null, .val (.ref w_ENDINGS), .val (.int (5 : Int32)), .val (.int (1 : Int32)), .val (.ref w_NO_TZAAR)] [(.ref w_TZARRA), (.ref w_TZAAR)])) X6 hx rfl rfl rfl (pc0 := 30) (pc' := 36) (same := false) rfl (hb hby own_d1_30) rfl (decide_eq_false fun q => ne_w_TZAAR_w_TZARRA (Value.ref.inj q)) (by decide) (by decide) k) ?_
  show Good p e below _ (T6.setTop (mkF m 36 #[.val (.ref w_TZARRA), .val .null, .val (.ref w_ENDINGS), .val (.int (5 : Int32)), .val (.int (1 : Int32)), .val (.ref w_NO_TZAAR)] []))
  refine Good.back (fun _ k => XS.iinc X6.here hx rfl (hb hby own_d1_36) rfl (l' := #[.val (.ref w_TZARRA), .val .null, .val (.ref w_ENDINGS), .val (.int (5 : Int32)), .val (.int ((1 : Int32) + (1 : Int32))), .val (.ref w_NO_TZAAR)]) rfl k) ?_
  show Good p e below _ (T6.setTop (mkF m 39 #[.val (.ref w_TZARRA), .val .null, .val (.ref w_ENDINGS), .val (.int (5 : Int32)), .val (.int ((1 : Int32) + (1 : Int32))), .val (.ref w_NO_TZAAR)] []))
  rw [show (((1 : Int32) + (1 : Int32)) : Int32) = (2 : Int32) from by decide]
  show Good p e below _ (T6.setTop (mkF m 39 #[.val (.ref w_TZARRA), .val .null, .val (.ref w_ENDINGS), .val (.int (5 : Int32)), .val (.int (2 : Int32)), .val (.ref w_NO_TZAAR)] []))
  refine Good.back (fun _ k => XS.goto X6.here hx rfl (pc0 := 39) (pc' := 12) rfl (hb hby own_d1_39) (by decide) (by decide) k) ?_
  show Good p e below _ (T6.setTop (mkF m 12 #[.val (.ref w_TZARRA), .val .null, .val (.ref w_ENDINGS), .val (.int (5 : Int32)), .val (.int (2 : Int32)), .val (.ref w_NO_TZAAR)] []))
  refine Good.back (fun _ k => XS.iload X6.here hx rfl (hb hby own_d1_12) rfl k) ?_
  show Good p e below _ (T6.setTop (mkF m 14 #[.val (.ref w_TZARRA), .val .null, .val (.ref w_ENDINGS), .val (.int (5 : Int32)), .val (.int (2 : Int32)), .val (.ref w_NO_TZAAR)] [(.int (2 : Int32))]))
  refine Good.back (fun _ k => XS.iloadN X6.here hx rfl (hb hby own_d1_14) rfl k) ?_
  show Good p e below _ (T6.setTop (mkF m 15 #[.val (.ref w_TZARRA), .val .null, .val (.ref w_ENDINGS), .val (.int (5 : Int32)), .val (.int (2 : Int32)), .val (.ref w_NO_TZAAR)] [(.int (5 : Int32)), (.int (2 : Int32))]))
  refine Good.back (fun _ k => XS.icmpNo X6.here hx rfl (hb hby own_d1_15) rfl (tlt (by decide : ((2 : Int32) < (5 : Int32)))).2.1 k) ?_
  show Good p e below _ (T6.setTop (mkF m 18 #[.val (.ref w_TZARRA), .val .null, .val (.ref w_ENDINGS), .val (.int (5 : Int32)), .val (.int (2 : Int32)), .val (.ref w_NO_TZAAR)] []))
  refine Good.back (fun _ k => XS.aloadN X6.here hx rfl (hb hby own_d1_18) rfl rfl k) ?_
  show Good p e below _ (T6.setTop (mkF m 19 #[.val (.ref w_TZARRA), .val .null, .val (.ref w_ENDINGS), .val (.int (5 : Int32)), .val (.int (2 : Int32)), .val (.ref w_NO_TZAAR)] [(.ref w_ENDINGS)]))
  refine Good.back (fun _ k => XS.iload X6.here hx rfl (hb hby own_d1_19) rfl k) ?_
  show Good p e below _ (T6.setTop (mkF m 21 #[.val (.ref w_TZARRA), .val .null, .val (.ref w_ENDINGS), .val (.int (5 : Int32)), .val (.int (2 : Int32)), .val (.ref w_NO_TZAAR)] [(.int (2 : Int32)), (.ref w_ENDINGS)]))
  have fc7 := V_w_ENDINGS
  obtain ⟨cl7, Ar7, qk7, S7, N7', H7, G7⟩ := fc7
  have hin7 : ¬ ((2 : Int32) < 0 ∨ cl7.slots.size ≤ ((2 : Int32)).toNatClampNeg) := inb_of S7 ⟨by decide, by decide⟩
  have hat7 : cl7.slots[((2 : Int32)).toNatClampNeg]? = some (.ref w_NO_TZARRA) := Has.at H7 hin7 rfl
  refine Good.back (X6.aaload hx (j := (2 : Int32)) (v := (.ref w_NO_TZARRA)) (by rw [e6]; exact Ar7.1) (State.isArrayOf_alike hZ.alike Ar7.2.1) rfl Ar7.2.2 hin7 hat7 (g := (mkF m 21 #[.val (.ref w_TZARRA), .val .null, .val (.ref w_ENDINGS), .val (.int (5 : Int32)), .val (.int (2 : Int32)), .val (.ref w_NO_TZAAR)] [(.int (2 : Int32)), (.ref w_ENDINGS)])) rfl rfl (hb hby own_d1_21)) ?_
  show Good p e below _ (T6.setTop (mkF m 22 #[.val (.ref w_TZARRA), .val .null, .val (.ref w_ENDINGS), .val (.int (5 : Int32)), .val (.int (2 : Int32)), .val (.ref w_NO_TZAAR)] [(.ref w_NO_TZARRA)]))
  refine Good.back (fun _ k => XS.astore X6.here hx rfl (hb hby own_d1_22) rfl rfl (l' := #[.val (.ref w_TZARRA), .val .null, .val (.ref w_ENDINGS), .val (.int (5 : Int32)), .val (.int (2 : Int32)), .val (.ref w_NO_TZARRA)]) rfl k) ?_
  show Good p e below _ (T6.setTop (mkF m 24 #[.val (.ref w_TZARRA), .val .null, .val (.ref w_ENDINGS), .val (.int (5 : Int32)), .val (.int (2 : Int32)), .val (.ref w_NO_TZARRA)] []))
  refine Good.back (fun _ k => XS.aload X6.here hx rfl (hb hby own_d1_24) rfl rfl k) ?_
  show Good p e below _ (T6.setTop (mkF m 26 #[.val (.ref w_TZARRA), .val .null, .val (.ref w_ENDINGS), .val (.int (5 : Int32)), .val (.int (2 : Int32)), .val (.ref w_NO_TZARRA)] [(.ref w_NO_TZARRA)]))
  obtain ⟨T8, X8, e8, st8⟩ := getF X6 hx hZ hown (host := "") (Or.inl (hw _ (List.mem_of_getElem? (i := 13) rfl))) Via.refl e6 F_lacked_w_NO_TZARRA (g := (mkF m 26 #[.val (.ref w_TZARRA), .val .null, .val (.ref w_ENDINGS), .val (.int (5 : Int32)), .val (.int (2 : Int32)), .val (.ref w_NO_TZARRA)] [(.ref w_NO_TZARRA)])) rfl rfl (hb hby own_d1_26)
  refine Good.back st8 ?_
  show Good p e below _ (T8.setTop (mkF m 29 #[.val (.ref w_TZARRA), .val .null, .val (.ref w_ENDINGS), .val (.int (5 : Int32)), .val (.int (2 : Int32)), .val (.ref w_NO_TZARRA)] [(.ref w_TZARRA)]))
  refine Good.back (fun _ k => XS.aloadN X8.here hx rfl (hb hby own_d1_29) rfl rfl k) ?_
  show Good p e below _ (T8.setTop (mkF m 30 #[.val (.ref w_TZARRA), .val .null, .val (.ref w_ENDINGS), .val (.int (5 : Int32)), .val (.int (2 : Int32)), .val (.ref w_NO_TZARRA)] [(.ref w_TZARRA), (.ref w_TZARRA)]))
  refine Good.back (fun _ k => Jvm.RoadKit.acmp (g := (mkF m 30 #[.val (.ref w_TZARRA), .val .null, .val (.ref w_ENDINGS), .val (.int (5 : Int32)), .val (.int (2 : Int32)), .val (.ref w_NO_TZARRA)] [(.ref w_TZARRA), (.ref w_TZARRA)])) X8 hx rfl rfl rfl (pc0 := 30) (pc' := 33) (same := true) rfl (hb hby own_d1_30) rfl (decide_eq_true rfl) (by decide) (by decide) k) ?_
  show Good p e below _ (T8.setTop (mkF m 33 #[.val (.ref w_TZARRA), .val .null, .val (.ref w_ENDINGS), .val (.int (5 : Int32)), .val (.int (2 : Int32)), .val (.ref w_NO_TZARRA)] []))
  refine Good.back (fun _ k => XS.aload X8.here hx rfl (hb hby own_d1_33) rfl rfl k) ?_
  show Good p e below _ (T8.setTop (mkF m 35 #[.val (.ref w_TZARRA), .val .null, .val (.ref w_ENDINGS), .val (.int (5 : Int32)), .val (.int (2 : Int32)), .val (.ref w_NO_TZARRA)] [(.ref w_NO_TZARRA)]))
  refine Good.back (fun _ k => XS.astoreN X8.here hx rfl (hb hby own_d1_35) rfl rfl (l' := #[.val (.ref w_TZARRA), .val (.ref w_NO_TZARRA), .val (.ref w_ENDINGS), .val (.int (5 : Int32)), .val (.int (2 : Int32)), .val (.ref w_NO_TZARRA)]) rfl k) ?_
  show Good p e below _ (T8.setTop (mkF m 36 #[.val (.ref w_TZARRA), .val (.ref w_NO_TZARRA), .val (.ref w_ENDINGS), .val (.int (5 : Int32)), .val (.int (2 : Int32)), .val (.ref w_NO_TZARRA)] []))
  refine Good.back (fun _ k => XS.iinc X8.here hx rfl (hb hby own_d1_36) rfl (l' := #[.val (.ref w_TZARRA), .val (.ref w_NO_TZARRA), .val (.ref w_ENDINGS), .val (.int (5 : Int32)), .val (.int ((2 : Int32) + (1 : Int32))), .val (.ref w_NO_TZARRA)]) rfl k) ?_
  show Good p e below _ (T8.setTop (mkF m 39 #[.val (.ref w_TZARRA), .val (.ref w_NO_TZARRA), .val (.ref w_ENDINGS), .val (.int (5 : Int32)), .val (.int ((2 : Int32) + (1 : Int32))), .val (.ref w_NO_TZARRA)] []))
  rw [show (((2 : Int32) + (1 : Int32)) : Int32) = (3 : Int32) from by decide]
  show Good p e below _ (T8.setTop (mkF m 39 #[.val (.ref w_TZARRA), .val (.ref w_NO_TZARRA), .val (.ref w_ENDINGS), .val (.int (5 : Int32)), .val (.int (3 : Int32)), .val (.ref w_NO_TZARRA)] []))
  refine Good.back (fun _ k => XS.goto X8.here hx rfl (pc0 := 39) (pc' := 12) rfl (hb hby own_d1_39) (by decide) (by decide) k) ?_
  show Good p e below _ (T8.setTop (mkF m 12 #[.val (.ref w_TZARRA), .val (.ref w_NO_TZARRA), .val (.ref w_ENDINGS), .val (.int (5 : Int32)), .val (.int (3 : Int32)), .val (.ref w_NO_TZARRA)] []))
  refine Good.back (fun _ k => XS.iload X8.here hx rfl (hb hby own_d1_12) rfl k) ?_
  show Good p e below _ (T8.setTop (mkF m 14 #[.val (.ref w_TZARRA), .val (.ref w_NO_TZARRA), .val (.ref w_ENDINGS), .val (.int (5 : Int32)), .val (.int (3 : Int32)), .val (.ref w_NO_TZARRA)] [(.int (3 : Int32))]))
  refine Good.back (fun _ k => XS.iloadN X8.here hx rfl (hb hby own_d1_14) rfl k) ?_
  show Good p e below _ (T8.setTop (mkF m 15 #[.val (.ref w_TZARRA), .val (.ref w_NO_TZARRA), .val (.ref w_ENDINGS), .val (.int (5 : Int32)), .val (.int (3 : Int32)), .val (.ref w_NO_TZARRA)] [(.int (5 : Int32)), (.int (3 : Int32))]))
  refine Good.back (fun _ k => XS.icmpNo X8.here hx rfl (hb hby own_d1_15) rfl (tlt (by decide : ((3 : Int32) < (5 : Int32)))).2.1 k) ?_
  show Good p e below _ (T8.setTop (mkF m 18 #[.val (.ref w_TZARRA), .val (.ref w_NO_TZARRA), .val (.ref w_ENDINGS), .val (.int (5 : Int32)), .val (.int (3 : Int32)), .val (.ref w_NO_TZARRA)] []))
  refine Good.back (fun _ k => XS.aloadN X8.here hx rfl (hb hby own_d1_18) rfl rfl k) ?_
  show Good p e below _ (T8.setTop (mkF m 19 #[.val (.ref w_TZARRA), .val (.ref w_NO_TZARRA), .val (.ref w_ENDINGS), .val (.int (5 : Int32)), .val (.int (3 : Int32)), .val (.ref w_NO_TZARRA)] [(.ref w_ENDINGS)]))
  refine Good.back (fun _ k => XS.iload X8.here hx rfl (hb hby own_d1_19) rfl k) ?_
  show Good p e below _ (T8.setTop (mkF m 21 #[.val (.ref w_TZARRA), .val (.ref w_NO_TZARRA), .val (.ref w_ENDINGS), .val (.int (5 : Int32)), .val (.int (3 : Int32)), .val (.ref w_NO_TZARRA)] [(.int (3 : Int32)), (.ref w_ENDINGS)]))
  have fc9 := V_w_ENDINGS
  obtain ⟨cl9, Ar9, qk9, S9, N9', H9, G9⟩ := fc9
  have hin9 : ¬ ((3 : Int32) < 0 ∨ cl9.slots.size ≤ ((3 : Int32)).toNatClampNeg) := inb_of S9 ⟨by decide, by decide⟩
  have hat9 : cl9.slots[((3 : Int32)).toNatClampNeg]? = some (.ref w_NO_TOTT) := Has.at H9 hin9 rfl
  refine Good.back (X8.aaload hx (j := (3 : Int32)) (v := (.ref w_NO_TOTT)) (by rw [e8]; exact Ar9.1) (State.isArrayOf_alike hZ.alike Ar9.2.1) rfl Ar9.2.2 hin9 hat9 (g := (mkF m 21 #[.val (.ref w_TZARRA), .val (.ref w_NO_TZARRA), .val (.ref w_ENDINGS), .val (.int (5 : Int32)), .val (.int (3 : Int32)), .val (.ref w_NO_TZARRA)] [(.int (3 : Int32)), (.ref w_ENDINGS)])) rfl rfl (hb hby own_d1_21)) ?_
  show Good p e below _ (T8.setTop (mkF m 22 #[.val (.ref w_TZARRA), .val (.ref w_NO_TZARRA), .val (.ref w_ENDINGS), .val (.int (5 : Int32)), .val (.int (3 : Int32)), .val (.ref w_NO_TZARRA)] [(.ref w_NO_TOTT)]))
  refine Good.back (fun _ k => XS.astore X8.here hx rfl (hb hby own_d1_22) rfl rfl (l' := #[.val (.ref w_TZARRA), .val (.ref w_NO_TZARRA), .val (.ref w_ENDINGS), .val (.int (5 : Int32)), .val (.int (3 : Int32)), .val (.ref w_NO_TOTT)]) rfl k) ?_
  show Good p e below _ (T8.setTop (mkF m 24 #[.val (.ref w_TZARRA), .val (.ref w_NO_TZARRA), .val (.ref w_ENDINGS), .val (.int (5 : Int32)), .val (.int (3 : Int32)), .val (.ref w_NO_TOTT)] []))
  refine Good.back (fun _ k => XS.aload X8.here hx rfl (hb hby own_d1_24) rfl rfl k) ?_
  show Good p e below _ (T8.setTop (mkF m 26 #[.val (.ref w_TZARRA), .val (.ref w_NO_TZARRA), .val (.ref w_ENDINGS), .val (.int (5 : Int32)), .val (.int (3 : Int32)), .val (.ref w_NO_TOTT)] [(.ref w_NO_TOTT)]))
  obtain ⟨T10, X10, e10, st10⟩ := getF X8 hx hZ hown (host := "") (Or.inl (hw _ (List.mem_of_getElem? (i := 13) rfl))) Via.refl e8 F_lacked_w_NO_TOTT (g := (mkF m 26 #[.val (.ref w_TZARRA), .val (.ref w_NO_TZARRA), .val (.ref w_ENDINGS), .val (.int (5 : Int32)), .val (.int (3 : Int32)), .val (.ref w_NO_TOTT)] [(.ref w_NO_TOTT)])) rfl rfl (hb hby own_d1_26)
  refine Good.back st10 ?_
  show Good p e below _ (T10.setTop (mkF m 29 #[.val (.ref w_TZARRA), .val (.ref w_NO_TZARRA), .val (.ref w_ENDINGS), .val (.int (5 : Int32)), .val (.int (3 : Int32)), .val (.ref w_NO_TOTT)] [(.ref w_TOTT)]))
  refine Good.back (fun _ k => XS.aloadN X10.here hx rfl (hb hby own_d1_29) rfl rfl k) ?_
  show Good p e below _ (T10.setTop (mkF m 30 #[.val (.ref w_TZARRA), .val (.ref w_NO_TZARRA), .val (.ref w_ENDINGS), .val (.int (5 : Int32)), .val (.int (3 : Int32)), .val (.ref w_NO_TOTT)] [(.ref w_TZARRA), (.ref w_TOTT)]))
  refine Good.back (fun _ k => Jvm.RoadKit.acmp (g := (mkF m 30 #[.val (.ref w_TZARRA), .val (.ref w_NO_TZARRA), .val (.ref w_ENDINGS), .val (.int (5 : Int32)), .val (.int (3 : Int32)), .val (.ref w_NO_TOTT)] [(.ref w_TZARRA), (.ref w_TOTT)])) X10 hx rfl rfl rfl (pc0 := 30) (pc' := 36) (same := false) rfl (hb hby own_d1_30) rfl (decide_eq_false fun q => ne_w_TOTT_w_TZARRA (Value.ref.inj q)) (by decide) (by decide) k) ?_
  show Good p e below _ (T10.setTop (mkF m 36 #[.val (.ref w_TZARRA), .val (.ref w_NO_TZARRA), .val (.ref w_ENDINGS), .val (.int (5 : Int32)), .val (.int (3 : Int32)), .val (.ref w_NO_TOTT)] []))
  refine Good.back (fun _ k => XS.iinc X10.here hx rfl (hb hby own_d1_36) rfl (l' := #[.val (.ref w_TZARRA), .val (.ref w_NO_TZARRA), .val (.ref w_ENDINGS), .val (.int (5 : Int32)), .val (.int ((3 : Int32) + (1 : Int32))), .val (.ref w_NO_TOTT)]) rfl k) ?_
  show Good p e below _ (T10.setTop (mkF m 39 #[.val (.ref w_TZARRA), .val (.ref w_NO_TZARRA), .val (.ref w_ENDINGS), .val (.int (5 : Int32)), .val (.int ((3 : Int32) + (1 : Int32))), .val (.ref w_NO_TOTT)] []))
  rw [show (((3 : Int32) + (1 : Int32)) : Int32) = (4 : Int32) from by decide]
  show Good p e below _ (T10.setTop (mkF m 39 #[.val (.ref w_TZARRA), .val (.ref w_NO_TZARRA), .val (.ref w_ENDINGS), .val (.int (5 : Int32)), .val (.int (4 : Int32)), .val (.ref w_NO_TOTT)] []))
  refine Good.back (fun _ k => XS.goto X10.here hx rfl (pc0 := 39) (pc' := 12) rfl (hb hby own_d1_39) (by decide) (by decide) k) ?_
  show Good p e below _ (T10.setTop (mkF m 12 #[.val (.ref w_TZARRA), .val (.ref w_NO_TZARRA), .val (.ref w_ENDINGS), .val (.int (5 : Int32)), .val (.int (4 : Int32)), .val (.ref w_NO_TOTT)] []))
  refine Good.back (fun _ k => XS.iload X10.here hx rfl (hb hby own_d1_12) rfl k) ?_
  show Good p e below _ (T10.setTop (mkF m 14 #[.val (.ref w_TZARRA), .val (.ref w_NO_TZARRA), .val (.ref w_ENDINGS), .val (.int (5 : Int32)), .val (.int (4 : Int32)), .val (.ref w_NO_TOTT)] [(.int (4 : Int32))]))
  refine Good.back (fun _ k => XS.iloadN X10.here hx rfl (hb hby own_d1_14) rfl k) ?_
  show Good p e below _ (T10.setTop (mkF m 15 #[.val (.ref w_TZARRA), .val (.ref w_NO_TZARRA), .val (.ref w_ENDINGS), .val (.int (5 : Int32)), .val (.int (4 : Int32)), .val (.ref w_NO_TOTT)] [(.int (5 : Int32)), (.int (4 : Int32))]))
  refine Good.back (fun _ k => XS.icmpNo X10.here hx rfl (hb hby own_d1_15) rfl (tlt (by decide : ((4 : Int32) < (5 : Int32)))).2.1 k) ?_
  show Good p e below _ (T10.setTop (mkF m 18 #[.val (.ref w_TZARRA), .val (.ref w_NO_TZARRA), .val (.ref w_ENDINGS), .val (.int (5 : Int32)), .val (.int (4 : Int32)), .val (.ref w_NO_TOTT)] []))
  refine Good.back (fun _ k => XS.aloadN X10.here hx rfl (hb hby own_d1_18) rfl rfl k) ?_
  show Good p e below _ (T10.setTop (mkF m 19 #[.val (.ref w_TZARRA), .val (.ref w_NO_TZARRA), .val (.ref w_ENDINGS), .val (.int (5 : Int32)), .val (.int (4 : Int32)), .val (.ref w_NO_TOTT)] [(.ref w_ENDINGS)]))
  refine Good.back (fun _ k => XS.iload X10.here hx rfl (hb hby own_d1_19) rfl k) ?_
  show Good p e below _ (T10.setTop (mkF m 21 #[.val (.ref w_TZARRA), .val (.ref w_NO_TZARRA), .val (.ref w_ENDINGS), .val (.int (5 : Int32)), .val (.int (4 : Int32)), .val (.ref w_NO_TOTT)] [(.int (4 : Int32)), (.ref w_ENDINGS)]))
  have fc11 := V_w_ENDINGS
  obtain ⟨cl11, Ar11, qk11, S11, N11', H11, G11⟩ := fc11
  have hin11 : ¬ ((4 : Int32) < 0 ∨ cl11.slots.size ≤ ((4 : Int32)).toNatClampNeg) := inb_of S11 ⟨by decide, by decide⟩
  have hat11 : cl11.slots[((4 : Int32)).toNatClampNeg]? = some (.ref w_NO_CAPTURE) := Has.at H11 hin11 rfl
  refine Good.back (X10.aaload hx (j := (4 : Int32)) (v := (.ref w_NO_CAPTURE)) (by rw [e10]; exact Ar11.1) (State.isArrayOf_alike hZ.alike Ar11.2.1) rfl Ar11.2.2 hin11 hat11 (g := (mkF m 21 #[.val (.ref w_TZARRA), .val (.ref w_NO_TZARRA), .val (.ref w_ENDINGS), .val (.int (5 : Int32)), .val (.int (4 : Int32)), .val (.ref w_NO_TOTT)] [(.int (4 : Int32)), (.ref w_ENDINGS)])) rfl rfl (hb hby own_d1_21)) ?_
  show Good p e below _ (T10.setTop (mkF m 22 #[.val (.ref w_TZARRA), .val (.ref w_NO_TZARRA), .val (.ref w_ENDINGS), .val (.int (5 : Int32)), .val (.int (4 : Int32)), .val (.ref w_NO_TOTT)] [(.ref w_NO_CAPTURE)]))
  refine Good.back (fun _ k => XS.astore X10.here hx rfl (hb hby own_d1_22) rfl rfl (l' := #[.val (.ref w_TZARRA), .val (.ref w_NO_TZARRA), .val (.ref w_ENDINGS), .val (.int (5 : Int32)), .val (.int (4 : Int32)), .val (.ref w_NO_CAPTURE)]) rfl k) ?_
  show Good p e below _ (T10.setTop (mkF m 24 #[.val (.ref w_TZARRA), .val (.ref w_NO_TZARRA), .val (.ref w_ENDINGS), .val (.int (5 : Int32)), .val (.int (4 : Int32)), .val (.ref w_NO_CAPTURE)] []))
  refine Good.back (fun _ k => XS.aload X10.here hx rfl (hb hby own_d1_24) rfl rfl k) ?_
  show Good p e below _ (T10.setTop (mkF m 26 #[.val (.ref w_TZARRA), .val (.ref w_NO_TZARRA), .val (.ref w_ENDINGS), .val (.int (5 : Int32)), .val (.int (4 : Int32)), .val (.ref w_NO_CAPTURE)] [(.ref w_NO_CAPTURE)]))
  obtain ⟨T12, X12, e12, st12⟩ := getF X10 hx hZ hown (host := "") (Or.inl (hw _ (List.mem_of_getElem? (i := 13) rfl))) Via.refl e10 F_lacked_w_NO_CAPTURE (g := (mkF m 26 #[.val (.ref w_TZARRA), .val (.ref w_NO_TZARRA), .val (.ref w_ENDINGS), .val (.int (5 : Int32)), .val (.int (4 : Int32)), .val (.ref w_NO_CAPTURE)] [(.ref w_NO_CAPTURE)])) rfl rfl (hb hby own_d1_26)
  refine Good.back st12 ?_
  show Good p e below _ (T12.setTop (mkF m 29 #[.val (.ref w_TZARRA), .val (.ref w_NO_TZARRA), .val (.ref w_ENDINGS), .val (.int (5 : Int32)), .val (.int (4 : Int32)), .val (.ref w_NO_CAPTURE)] [.null]))
  refine Good.back (fun _ k => XS.aloadN X12.here hx rfl (hb hby own_d1_29) rfl rfl k) ?_
  show Good p e below _ (T12.setTop (mkF m 30 #[.val (.ref w_TZARRA), .val (.ref w_NO_TZARRA), .val (.ref w_ENDINGS), .val (.int (5 : Int32)), .val (.int (4 : Int32)), .val (.ref w_NO_CAPTURE)] [(.ref w_TZARRA), .null]))
  refine Good.back (fun _ k => Jvm.RoadKit.acmp (g := (mkF m 30 #[.val (.ref w_TZARRA), .val (.ref w_NO_TZARRA), .val (.ref w_ENDINGS), .val (.int (5 : Int32)), .val (.int (4 : Int32)), .val (.ref w_NO_CAPTURE)] [(.ref w_TZARRA), .null])) X12 hx rfl rfl rfl (pc0 := 30) (pc' := 36) (same := false) rfl (hb hby own_d1_30) rfl (decide_eq_false nofun) (by decide) (by decide) k) ?_
  show Good p e below _ (T12.setTop (mkF m 36 #[.val (.ref w_TZARRA), .val (.ref w_NO_TZARRA), .val (.ref w_ENDINGS), .val (.int (5 : Int32)), .val (.int (4 : Int32)), .val (.ref w_NO_CAPTURE)] []))
  refine Good.back (fun _ k => XS.iinc X12.here hx rfl (hb hby own_d1_36) rfl (l' := #[.val (.ref w_TZARRA), .val (.ref w_NO_TZARRA), .val (.ref w_ENDINGS), .val (.int (5 : Int32)), .val (.int ((4 : Int32) + (1 : Int32))), .val (.ref w_NO_CAPTURE)]) rfl k) ?_
  show Good p e below _ (T12.setTop (mkF m 39 #[.val (.ref w_TZARRA), .val (.ref w_NO_TZARRA), .val (.ref w_ENDINGS), .val (.int (5 : Int32)), .val (.int ((4 : Int32) + (1 : Int32))), .val (.ref w_NO_CAPTURE)] []))
  rw [show (((4 : Int32) + (1 : Int32)) : Int32) = (5 : Int32) from by decide]
  show Good p e below _ (T12.setTop (mkF m 39 #[.val (.ref w_TZARRA), .val (.ref w_NO_TZARRA), .val (.ref w_ENDINGS), .val (.int (5 : Int32)), .val (.int (5 : Int32)), .val (.ref w_NO_CAPTURE)] []))
  refine Good.back (fun _ k => XS.goto X12.here hx rfl (pc0 := 39) (pc' := 12) rfl (hb hby own_d1_39) (by decide) (by decide) k) ?_
  show Good p e below _ (T12.setTop (mkF m 12 #[.val (.ref w_TZARRA), .val (.ref w_NO_TZARRA), .val (.ref w_ENDINGS), .val (.int (5 : Int32)), .val (.int (5 : Int32)), .val (.ref w_NO_CAPTURE)] []))
  refine Good.back (fun _ k => XS.iload X12.here hx rfl (hb hby own_d1_12) rfl k) ?_
  show Good p e below _ (T12.setTop (mkF m 14 #[.val (.ref w_TZARRA), .val (.ref w_NO_TZARRA), .val (.ref w_ENDINGS), .val (.int (5 : Int32)), .val (.int (5 : Int32)), .val (.ref w_NO_CAPTURE)] [(.int (5 : Int32))]))
  refine Good.back (fun _ k => XS.iloadN X12.here hx rfl (hb hby own_d1_14) rfl k) ?_
  show Good p e below _ (T12.setTop (mkF m 15 #[.val (.ref w_TZARRA), .val (.ref w_NO_TZARRA), .val (.ref w_ENDINGS), .val (.int (5 : Int32)), .val (.int (5 : Int32)), .val (.ref w_NO_CAPTURE)] [(.int (5 : Int32)), (.int (5 : Int32))]))
  refine Good.back (fun _ k => XS.icmpYes X12.here hx rfl (pc0 := 15) (pc' := 42) rfl (hb hby own_d1_15) rfl (flt (by decide : ¬ ((5 : Int32) < (5 : Int32)))).2.1 (by decide) (by decide) k) ?_
  show Good p e below _ (T12.setTop (mkF m 42 #[.val (.ref w_TZARRA), .val (.ref w_NO_TZARRA), .val (.ref w_ENDINGS), .val (.int (5 : Int32)), .val (.int (5 : Int32)), .val (.ref w_NO_CAPTURE)] []))
  refine Good.back (fun _ k => XS.aloadN X12.here hx rfl (hb hby own_d1_42) rfl rfl k) ?_
  show Good p e below _ (T12.setTop (mkF m 43 #[.val (.ref w_TZARRA), .val (.ref w_NO_TZARRA), .val (.ref w_ENDINGS), .val (.int (5 : Int32)), .val (.int (5 : Int32)), .val (.ref w_NO_CAPTURE)] [(.ref w_NO_TZARRA)]))
  obtain ⟨fs13, hr13, hrun13, hended13, hW13, hsame13⟩ := X12.leave (v := some (.ref w_NO_TZARRA)) (fun h => by rw [Bd.returns] at h; cases h)
  refine Good.done (retOut X12 hx Bd.returns rfl (Or.inr (Or.inr (Or.inr (Or.inr ⟨rfl, rfl, rfl⟩)))) (hb hby own_d1_43) hr13) hrun13 hended13 ⟨_, _, rfl, ?_, ⟨_, rfl⟩, hW13, hsame13.mono (by decide) (by decide)⟩
  show Q1_TZARRA Z w_TOTT w_NO_TOTT w_ENDINGS w_IN_PROGRESS w_NO_TZAAR w_TZAAR w_NO_TZARRA w_TZARRA w_NO_CAPTURE kc_w_ENDINGS h0 n0 _ T12.heap _
  rw [e12]
  exact ⟨rfl, N0, rfl⟩
theorem own_ef_1_TZAAR (m : MethodId) (x0 : Addr) : entryFrame m #[(.ref x0)] 6 = mkF m 0 #[.val (.ref x0), .unset, .unset, .unset, .unset, .unset] [] := by first | (simp [entryFrame, mkF, argsToLocals, Value.category]; done) | rfl
def Q1_TZAAR (Z : State) (w_TOTT : Addr) (w_NO_TOTT : Addr) (w_ENDINGS : Addr) (w_IN_PROGRESS : Addr) (w_NO_TZAAR : Addr) (w_TZAAR : Addr) (w_NO_TZARRA : Addr) (w_TZARRA : Addr) (w_NO_CAPTURE : Addr) (kc_w_ENDINGS : ClassId) (h0 : Heap) (n0 : Nat) (v : Option Value) (h : Heap) (L : List Loc) : Prop := v = some (.ref w_NO_TZAAR) ∧ Fr n0 L ∧ h = h0
set_option maxRecDepth 65536 in
set_option maxHeartbeats 40000000 in
theorem rm1_TZAAR (l : Launch) (Z : State) (a0 : Array Value) (hw : ∀ d ∈ tables_1, d.before a0 Z = true) (ws : List Jvm.Cond) (w_TOTT : Addr) (w_NO_TOTT : Addr) (w_ENDINGS : Addr) (w_IN_PROGRESS : Addr) (w_NO_TZAAR : Addr) (w_TZAAR : Addr) (w_NO_TZARRA : Addr) (w_TZARRA : Addr) (w_NO_CAPTURE : Addr) (kc_w_ENDINGS : ClassId) (h0 : Heap) (n0 : Nat) (Z0 : n0 ≤ h0.size) (S_w_TOTT : Sta Z h0 "com/example/trinode/trinode/tzaar/PieceType" "TOTT" "Lcom/example/trinode/trinode/tzaar/PieceType;" (.ref w_TOTT)) (E_w_TOTT : Exa Z h0 w_TOTT "com/example/trinode/trinode/tzaar/PieceType") (S_w_NO_TOTT : Sta Z h0 "com/example/trinode/trinode/tzaar/Ending" "NO_TOTT" "Lcom/example/trinode/trinode/tzaar/Ending;" (.ref w_NO_TOTT)) (E_w_NO_TOTT : Exa Z h0 w_NO_TOTT "com/example/trinode/trinode/tzaar/Ending") (S_w_ENDINGS : Sta Z h0 "com/example/trinode/trinode/tzaar/Ending" "ENDINGS" "[Lcom/example/trinode/trinode/tzaar/Ending;" (.ref w_ENDINGS)) (S_w_IN_PROGRESS : Sta Z h0 "com/example/trinode/trinode/tzaar/Ending" "IN_PROGRESS" "Lcom/example/trinode/trinode/tzaar/Ending;" (.ref w_IN_PROGRESS)) (E_w_IN_PROGRESS : Exa Z h0 w_IN_PROGRESS "com/example/trinode/trinode/tzaar/Ending") (S_w_NO_TZAAR : Sta Z h0 "com/example/trinode/trinode/tzaar/Ending" "NO_TZAAR" "Lcom/example/trinode/trinode/tzaar/Ending;" (.ref w_NO_TZAAR)) (E_w_NO_TZAAR : Exa Z h0 w_NO_TZAAR "com/example/trinode/trinode/tzaar/Ending") (S_w_TZAAR : Sta Z h0 "com/example/trinode/trinode/tzaar/PieceType" "TZAAR" "Lcom/example/trinode/trinode/tzaar/PieceType;" (.ref w_TZAAR)) (E_w_TZAAR : Exa Z h0 w_TZAAR "com/example/trinode/trinode/tzaar/PieceType") (S_w_NO_TZARRA : Sta Z h0 "com/example/trinode/trinode/tzaar/Ending" "NO_TZARRA" "Lcom/example/trinode/trinode/tzaar/Ending;" (.ref w_NO_TZARRA)) (E_w_NO_TZARRA : Exa Z h0 w_NO_TZARRA "com/example/trinode/trinode/tzaar/Ending") (S_w_TZARRA : Sta Z h0 "com/example/trinode/trinode/tzaar/PieceType" "TZARRA" "Lcom/example/trinode/trinode/tzaar/PieceType;" (.ref w_TZARRA)) (E_w_TZARRA : Exa Z h0 w_TZARRA "com/example/trinode/trinode/tzaar/PieceType") (S_w_NO_CAPTURE : Sta Z h0 "com/example/trinode/trinode/tzaar/Ending" "NO_CAPTURE" "Lcom/example/trinode/trinode/tzaar/Ending;" (.ref w_NO_CAPTURE)) (E_w_NO_CAPTURE : Exa Z h0 w_NO_CAPTURE "com/example/trinode/trinode/tzaar/Ending") (F_lacked_w_IN_PROGRESS : Fld Z h0 w_IN_PROGRESS "com/example/trinode/trinode/tzaar/Ending" "lacked" "Lcom/example/trinode/trinode/tzaar/PieceType;" .null) (F_lacked_w_NO_TZAAR : Fld Z h0 w_NO_TZAAR "com/example/trinode/trinode/tzaar/Ending" "lacked" "Lcom/example/trinode/trinode/tzaar/PieceType;" (.ref w_TZAAR)) (F_ordinal_w_TZAAR : Fld Z h0 w_TZAAR "java/lang/Enum" "ordinal" "I" (.int (2 : Int32))) (F_ordinal_w_TOTT : Fld Z h0 w_TOTT "java/lang/Enum" "ordinal" "I" (.int (0 : Int32))) (F_lacked_w_NO_TZARRA : Fld Z h0 w_NO_TZARRA "com/example/trinode/trinode/tzaar/Ending" "lacked" "Lcom/example/trinode/trinode/tzaar/PieceType;" (.ref w_TZARRA)) (F_ordinal_w_TZARRA : Fld Z h0 w_TZARRA "java/lang/Enum" "ordinal" "I" (.int (1 : Int32))) (F_lacked_w_NO_TOTT : Fld Z h0 w_NO_TOTT "com/example/trinode/trinode/tzaar/Ending" "lacked" "Lcom/example/trinode/trinode/tzaar/PieceType;" (.ref w_TOTT)) (F_lacked_w_NO_CAPTURE : Fld Z h0 w_NO_CAPTURE "com/example/trinode/trinode/tzaar/Ending" "lacked" "Lcom/example/trinode/trinode/tzaar/PieceType;" .null) (V_w_ENDINGS : Arv Z h0 w_ENDINGS kc_w_ENDINGS (.object "com/example/trinode/trinode/tzaar/Ending") (5 : Int32) [(.ref w_IN_PROGRESS), (.ref w_NO_TZAAR), (.ref w_NO_TZARRA), (.ref w_NO_TOTT), (.ref w_NO_CAPTURE)] .null) (ne_w_TZAAR_w_TOTT : w_TZAAR ≠ w_TOTT) (ne_w_TZAAR_w_TZARRA : w_TZAAR ≠ w_TZARRA) (ne_w_TOTT_w_TZARRA : w_TOTT ≠ w_TZARRA) :
    MetFree l (⟨"com/example/trinode/trinode/tzaar/Ending", "without", "(Lcom/example/trinode/trinode/tzaar/PieceType;)Lcom/example/trinode/trinode/tzaar/Ending;"⟩ : MethodName) (head1 (Jvm.Cond.code (⟨"com/example/trinode/trinode/tzaar/Ending", "without", "(Lcom/example/trinode/trinode/tzaar/PieceType;)Lcom/example/trinode/trinode/tzaar/Ending;"⟩ : MethodName) prog_40_method_4_code 6 (some (.object "com/example/trinode/trinode/tzaar/Ending")) :: ws) ({ frames := 0, cells := 0, slots := 0, locals := 0 } : Room)) (fun a U => a = #[(.ref w_TZAAR)] ∧ Z.Warmed39 U.vm ∧ U.heap = h0) (fun _ _ _ _ _ => True) (fun _ U o U' => ∃ v L, o = .returned v ∧ Q1_TZAAR Z w_TOTT w_NO_TOTT w_ENDINGS w_IN_PROGRESS w_NO_TZAAR w_TZAAR w_NO_TZARRA w_TZARRA w_NO_CAPTURE kc_w_ENDINGS h0 n0 v U'.heap L ∧ FrameEnd U o U' L ({ frames := 0, cells := 0, slots := 0, locals := 0 } : Room).cells ({ frames := 0, cells := 0, slots := 0, locals := 0 } : Room).slots) := by
  refine MetFree.of_bodySF (plainFor_of_name own_pn0) hisR ?_
  intro p e s m args below meth c s₁ Bd hml0 hP hK
  obtain ⟨rfl, hZ, hh⟩ := hP
  have hx := Bd.exec
  have hby := Bd.bytes
  have hml : c.maxLocals = 6 := hml0
  have hown : s.vm.findClass "com/example/trinode/trinode/tzaar/Ending" = some m.cls := findClass_of_methodNamed Bd.named
  have hnm := (name_of_methodNamed Bd.named Bd.method).1
  have X0 : Stand p l e ({ frames := 0, cells := 0, slots := 0, locals := 0 } : Room) s m #[(.ref w_TZAAR)] below meth c s₁ [] 0 0 := Stand.of_body Bd
  have e0 : s₁.heap = h0 := by rw [← hh, Bd.state]; rfl
  have N0 := Fr.nil n0
  show Good p e below (fun o U' => ∃ v L, o = .returned v ∧ Q1_TZAAR Z w_TOTT w_NO_TOTT w_ENDINGS w_IN_PROGRESS w_NO_TZAAR w_TZAAR w_NO_TZARRA w_TZARRA w_NO_CAPTURE kc_w_ENDINGS h0 n0 v U'.heap L ∧ FrameEnd s o U' L ({ frames := 0, cells := 0, slots := 0, locals := 0 } : Room).cells ({ frames := 0, cells := 0, slots := 0, locals := 0 } : Room).slots) _
  refine Good.back (S' := s₁.setTop (mkF m 0 #[.val (.ref w_TZAAR), .unset, .unset, .unset, .unset, .unset] [])) (fun t k => castTop (own_ef_1_TZAAR m w_TZAAR) k) ?_
  show Good p e below _ (s₁.setTop (mkF m 0 #[.val (.ref w_TZAAR), .unset, .unset, .unset, .unset, .unset] []))
  refine Good.back (fun _ k => XS.aconstNull X0.here hx rfl (hb hby own_d1_0) k) ?_
  show Good p e below _ (s₁.setTop (mkF m 1 #[.val (.ref w_TZAAR), .unset, .unset, .unset, .unset, .unset] [.null]))
  refine Good.back (fun _ k => XS.astoreN X0.here hx rfl (hb hby own_d1_1) rfl rfl (l' := #[.val (.ref w_TZAAR), .val .null, .unset, .unset, .unset, .unset]) rfl k) ?_
  show Good p e below _ (s₁.setTop (mkF m 2 #[.val (.ref w_TZAAR), .val .null, .unset, .unset, .unset, .unset] []))
  obtain ⟨T1, X1, e1, st1⟩ := getS2 X0 hx hZ hown (host := "") (Or.inl (hw _ (List.mem_of_getElem? (i := 10) rfl))) Via.refl e0 S_w_ENDINGS (g := (mkF m 2 #[.val (.ref w_TZAAR), .val .null, .unset, .unset, .unset, .unset] [])) rfl (hb hby own_d1_2)
  refine Good.back st1 ?_
  show Good p e below _ (T1.setTop (mkF m 5 #[.val (.ref w_TZAAR), .val .null, .unset, .unset, .unset, .unset] [(.ref w_ENDINGS)]))
  refine Good.back (fun _ k => XS.astoreN X1.here hx rfl (hb hby own_d1_5) rfl rfl (l' := #[.val (.ref w_TZAAR), .val .null, .val (.ref w_ENDINGS), .unset, .unset, .unset]) rfl k) ?_
  show Good p e below _ (T1.setTop (mkF m 6 #[.val (.ref w_TZAAR), .val .null, .val (.ref w_ENDINGS), .unset, .unset, .unset] []))
  refine Good.back (fun _ k => XS.aloadN X1.here hx rfl (hb hby own_d1_6) rfl rfl k) ?_
  show Good p e below _ (T1.setTop (mkF m 7 #[.val (.ref w_TZAAR), .val .null, .val (.ref w_ENDINGS), .unset, .unset, .unset] [(.ref w_ENDINGS)]))
  have fc2 := V_w_ENDINGS
  obtain ⟨cl2, Ar2, qk2, S2, N2', H2, G2⟩ := fc2
  refine Good.back (X1.arraylength hx (by rw [e1]; exact Ar2.1) (State.isArrayOf_alike hZ.alike Ar2.2.1) (g := (mkF m 7 #[.val (.ref w_TZAAR), .val .null, .val (.ref w_ENDINGS), .unset, .unset, .unset] [(.ref w_ENDINGS)])) rfl rfl (hb hby own_d1_7)) ?_
  rw [len_of S2 N2']
  show Good p e below _ (T1.setTop (mkF m 8 #[.val (.ref w_TZAAR), .val .null, .val (.ref w_ENDINGS), .unset, .unset, .unset] [(.int (5 : Int32))]))
  refine Good.back (fun _ k => XS.istoreN X1.here hx rfl (hb hby own_d1_8) rfl (l' := #[.val (.ref w_TZAAR), .val .null, .val (.ref w_ENDINGS), .val (.int (5 : Int32)), .unset, .unset]) rfl k) ?_
  show Good p e below _ (T1.setTop (mkF m 9 #[.val (.ref w_TZAAR), .val .null, .val (.ref w_ENDINGS), .val (.int (5 : Int32)), .unset, .unset] []))
  refine Good.back (fun _ k => XS.iconst X1.here hx rfl (hb hby own_d1_9) k) ?_
  show Good p e below _ (T1.setTop (mkF m 10 #[.val (.ref w_TZAAR), .val .null, .val (.ref w_ENDINGS), .val (.int (5 : Int32)), .unset, .unset] [(.int (0 : Int32))]))
  refine Good.back (fun _ k => XS.istore X1.here hx rfl (hb hby own_d1_10) rfl (l' := #[.val (.ref w_TZAAR), .val .null, .val (.ref w_ENDINGS), .val (.int (5 : Int32)), .val (.int (0 : Int32)), .unset]) rfl k) ?_
  show Good p e below _ (T1.setTop (mkF m 12 #[.val (.ref w_TZAAR), .val .null, .val (.ref w_ENDINGS), .val (.int (5 : Int32)), .val (.int (0 : Int32)), .unset] []))
  refine Good.back (fun _ k => XS.iload X1.here hx rfl (hb hby own_d1_12) rfl k) ?_
  show Good p e below _ (T1.setTop (mkF m 14 #[.val (.ref w_TZAAR), .val .null, .val (.ref w_ENDINGS), .val (.int (5 : Int32)), .val (.int (0 : Int32)), .unset] [(.int (0 : Int32))]))
  refine Good.back (fun _ k => XS.iloadN X1.here hx rfl (hb hby own_d1_14) rfl k) ?_
  show Good p e below _ (T1.setTop (mkF m 15 #[.val (.ref w_TZAAR), .val .null, .val (.ref w_ENDINGS), .val (.int (5 : Int32)), .val (.int (0 : Int32)), .unset] [(.int (5 : Int32)), (.int (0 : Int32))]))
  refine Good.back (fun _ k => XS.icmpNo X1.here hx rfl (hb hby own_d1_15) rfl (tlt (by decide : ((0 : Int32) < (5 : Int32)))).2.1 k) ?_
  show Good p e below _ (T1.setTop (mkF m 18 #[.val (.ref w_TZAAR), .val .null, .val (.ref w_ENDINGS), .val (.int (5 : Int32)), .val (.int (0 : Int32)), .unset] []))
  refine Good.back (fun _ k => XS.aloadN X1.here hx rfl (hb hby own_d1_18) rfl rfl k) ?_
  show Good p e below _ (T1.setTop (mkF m 19 #[.val (.ref w_TZAAR), .val .null, .val (.ref w_ENDINGS), .val (.int (5 : Int32)), .val (.int (0 : Int32)), .unset] [(.ref w_ENDINGS)]))
  refine Good.back (fun _ k => XS.iload X1.here hx rfl (hb hby own_d1_19) rfl k) ?_
  show Good p e below _ (T1.setTop (mkF m 21 #[.val (.ref w_TZAAR), .val .null, .val (.ref w_ENDINGS), .val (.int (5 : Int32)), .val (.int (0 : Int32)), .unset] [(.int (0 : Int32)), (.ref w_ENDINGS)]))
  have fc3 := V_w_ENDINGS
  obtain ⟨cl3, Ar3, qk3, S3, N3', H3, G3⟩ := fc3
  have hin3 : ¬ ((0 : Int32) < 0 ∨ cl3.slots.size ≤ ((0 : Int32)).toNatClampNeg) := inb_of S3 ⟨by decide, by decide⟩
  have hat3 : cl3.slots[((0 : Int32)).toNatClampNeg]? = some (.ref w_IN_PROGRESS) := Has.at H3 hin3 rfl
  refine Good.back (X1.aaload hx (j := (0 : Int32)) (v := (.ref w_IN_PROGRESS)) (by rw [e1]; exact Ar3.1) (State.isArrayOf_alike hZ.alike Ar3.2.1) rfl Ar3.2.2 hin3 hat3 (g := (mkF m 21 #[.val (.ref w_TZAAR), .val .null, .val (.ref w_ENDINGS), .val (.int (5 : Int32)), .val (.int (0 : Int32)), .unset] [(.int (0 : Int32)), (.ref w_ENDINGS)])) rfl rfl (hb hby own_d1_21)) ?_
  show Good p e below _ (T1.setTop (mkF m 22 #[.val (.ref w_TZAAR), .val .null, .val (.ref w_ENDINGS), .val (.int (5 : Int32)), .val (.int (0 : Int32)), .unset] [(.ref w_IN_PROGRESS)]))
  refine Good.back (fun _ k => XS.astore X1.here hx rfl (hb hby own_d1_22) rfl rfl (l' := #[.val (.ref w_TZAAR), .val .null, .val (.ref w_ENDINGS), .val (.int (5 : Int32)), .val (.int (0 : Int32)), .val (.ref w_IN_PROGRESS)]) rfl k) ?_
  show Good p e below _ (T1.setTop (mkF m 24 #[.val (.ref w_TZAAR), .val .null, .val (.ref w_ENDINGS), .val (.int (5 : Int32)), .val (.int (0 : Int32)), .val (.ref w_IN_PROGRESS)] []))
  refine Good.back (fun _ k => XS.aload X1.here hx rfl (hb hby own_d1_24) rfl rfl k) ?_
  show Good p e below _ (T1.setTop (mkF m 26 #[.val (.ref w_TZAAR), .val .null, .val (.ref w_ENDINGS), .val (.int (5 : Int32)), .val (.int (0 : Int32)), .val (.ref w_IN_PROGRESS)] [(.ref w_IN_PROGRESS)]))
  obtain ⟨T4, X4, e4, st4⟩ := getF X1 hx hZ hown (host := "") (Or.inl (hw _ (List.mem_of_getElem? (i := 13) rfl))) Via.refl e1 F_lacked_w_IN_PROGRESS (g := (mkF m 26 #[.val (.ref w_TZAAR), .val .null, .val (.ref w_ENDINGS), .val (.int (5 : Int32)), .val (.int (0 : Int32)), .val (.ref w_IN_PROGRESS)] [(.ref w_IN_PROGRESS)])) rfl rfl (hb hby own_d1_26)
  refine Good.back st4 ?_
  show Good p e below _ (T4.setTop (mkF m 29 #[.val (.ref w_TZAAR), .val .null, .val (.ref w_ENDINGS), .val (.int (5 : Int32)), .val (.int (0 : Int32)), .val (.ref w_IN_PROGRESS)] [.null]))
  refine Good.back (fun _ k => XS.aloadN X4.here hx rfl (hb hby own_d1_29) rfl rfl k) ?_
  show Good p e below _ (T4.setTop (mkF m 30 #[.val (.ref w_TZAAR), .val .null, .val (.ref w_ENDINGS), .val (.int (5 : Int32)), .val (.int (0 : Int32)), .val (.ref w_IN_PROGRESS)] [(.ref w_TZAAR), .null]))
  refine Good.back (fun _ k => Jvm.RoadKit.acmp (g := (mkF m 30 #[.val (.ref w_TZAAR), .val .null, .val (.ref w_ENDINGS), .val (.int (5 : Int32)), .val (.int (0 : Int32)), .val (.ref w_IN_PROGRESS)] [(.ref w_TZAAR), .null])) X4 hx rfl rfl rfl (pc0 := 30) (pc' := 36) (same := false) rfl (hb hby own_d1_30) rfl (decide_eq_false nofun) (by decide) (by decide) k) ?_
  show Good p e below _ (T4.setTop (mkF m 36 #[.val (.ref w_TZAAR), .val .null, .val (.ref w_ENDINGS), .val (.int (5 : Int32)), .val (.int (0 : Int32)), .val (.ref w_IN_PROGRESS)] []))
  refine Good.back (fun _ k => XS.iinc X4.here hx rfl (hb hby own_d1_36) rfl (l' := #[.val (.ref w_TZAAR), .val .null, .val (.ref w_ENDINGS), .val (.int (5 : Int32)), .val (.int ((0 : Int32) + (1 : Int32))), .val (.ref w_IN_PROGRESS)]) rfl k) ?_
  show Good p e below _ (T4.setTop (mkF m 39 #[.val (.ref w_TZAAR), .val .null, .val (.ref w_ENDINGS), .val (.int (5 : Int32)), .val (.int ((0 : Int32) + (1 : Int32))), .val (.ref w_IN_PROGRESS)] []))
  rw [show (((0 : Int32) + (1 : Int32)) : Int32) = (1 : Int32) from by decide]
  show Good p e below _ (T4.setTop (mkF m 39 #[.val (.ref w_TZAAR), .val .null, .val (.ref w_ENDINGS), .val (.int (5 : Int32)), .val (.int (1 : Int32)), .val (.ref w_IN_PROGRESS)] []))
  refine Good.back (fun _ k => XS.goto X4.here hx rfl (pc0 := 39) (pc' := 12) rfl (hb hby own_d1_39) (by decide) (by decide) k) ?_
  show Good p e below _ (T4.setTop (mkF m 12 #[.val (.ref w_TZAAR), .val .null, .val (.ref w_ENDINGS), .val (.int (5 : Int32)), .val (.int (1 : Int32)), .val (.ref w_IN_PROGRESS)] []))
  refine Good.back (fun _ k => XS.iload X4.here hx rfl (hb hby own_d1_12) rfl k) ?_
  show Good p e below _ (T4.setTop (mkF m 14 #[.val (.ref w_TZAAR), .val .null, .val (.ref w_ENDINGS), .val (.int (5 : Int32)), .val (.int (1 : Int32)), .val (.ref w_IN_PROGRESS)] [(.int (1 : Int32))]))
  refine Good.back (fun _ k => XS.iloadN X4.here hx rfl (hb hby own_d1_14) rfl k) ?_
  show Good p e below _ (T4.setTop (mkF m 15 #[.val (.ref w_TZAAR), .val .null, .val (.ref w_ENDINGS), .val (.int (5 : Int32)), .val (.int (1 : Int32)), .val (.ref w_IN_PROGRESS)] [(.int (5 : Int32)), (.int (1 : Int32))]))
  refine Good.back (fun _ k => XS.icmpNo X4.here hx rfl (hb hby own_d1_15) rfl (tlt (by decide : ((1 : Int32) < (5 : Int32)))).2.1 k) ?_
  show Good p e below _ (T4.setTop (mkF m 18 #[.val (.ref w_TZAAR), .val .null, .val (.ref w_ENDINGS), .val (.int (5 : Int32)), .val (.int (1 : Int32)), .val (.ref w_IN_PROGRESS)] []))
  refine Good.back (fun _ k => XS.aloadN X4.here hx rfl (hb hby own_d1_18) rfl rfl k) ?_
  show Good p e below _ (T4.setTop (mkF m 19 #[.val (.ref w_TZAAR), .val .null, .val (.ref w_ENDINGS), .val (.int (5 : Int32)), .val (.int (1 : Int32)), .val (.ref w_IN_PROGRESS)] [(.ref w_ENDINGS)]))
  refine Good.back (fun _ k => XS.iload X4.here hx rfl (hb hby own_d1_19) rfl k) ?_
  show Good p e below _ (T4.setTop (mkF m 21 #[.val (.ref w_TZAAR), .val .null, .val (.ref w_ENDINGS), .val (.int (5 : Int32)), .val (.int (1 : Int32)), .val (.ref w_IN_PROGRESS)] [(.int (1 : Int32)), (.ref w_ENDINGS)]))
  have fc5 := V_w_ENDINGS
  obtain ⟨cl5, Ar5, qk5, S5, N5', H5, G5⟩ := fc5
  have hin5 : ¬ ((1 : Int32) < 0 ∨ cl5.slots.size ≤ ((1 : Int32)).toNatClampNeg) := inb_of S5 ⟨by decide, by decide⟩
  have hat5 : cl5.slots[((1 : Int32)).toNatClampNeg]? = some (.ref w_NO_TZAAR) := Has.at H5 hin5 rfl
  refine Good.back (X4.aaload hx (j := (1 : Int32)) (v := (.ref w_NO_TZAAR)) (by rw [e4]; exact Ar5.1) (State.isArrayOf_alike hZ.alike Ar5.2.1) rfl Ar5.2.2 hin5 hat5 (g := (mkF m 21 #[.val (.ref w_TZAAR), .val .null, .val (.ref w_ENDINGS), .val (.int (5 : Int32)), .val (.int (1 : Int32)), .val (.ref w_IN_PROGRESS)] [(.int (1 : Int32)), (.ref w_ENDINGS)])) rfl rfl (hb hby own_d1_21)) ?_
  show Good p e below _ (T4.setTop (mkF m 22 #[.val (.ref w_TZAAR), .val .null, .val (.ref w_ENDINGS), .val (.int (5 : Int32)), .val (.int (1 : Int32)), .val (.ref w_IN_PROGRESS)] [(.ref w_NO_TZAAR)]))
  refine Good.back (fun _ k => XS.astore X4.here hx rfl (hb hby own_d1_22) rfl rfl (l' := #[.val (.ref w_TZAAR), .val .null, .val (.ref w_ENDINGS), .val (.int (5 : Int32)), .val (.int (1 : Int32)), .val (.ref w_NO_TZAAR)]) rfl k) ?_
  show Good p e below _ (T4.setTop (mkF m 24 #[.val (.ref w_TZAAR), .val .null, .val (.ref w_ENDINGS), .val (.int (5 : Int32)), .val (.int (1 : Int32)), .val (.ref w_NO_TZAAR)] []))
  refine Good.back (fun _ k => XS.aload X4.here hx rfl (hb hby own_d1_24) rfl rfl k) ?_
  show Good p e below _ (T4.setTop (mkF m 26 #[.val (.ref w_TZAAR), .val .null, .val (.ref w_ENDINGS), .val (.int (5 : Int32)), .val (.int (1 : Int32)), .val (.ref w_NO_TZAAR)] [(.ref w_NO_TZAAR)]))
  obtain ⟨T6, X6, e6, st6⟩ := getF X4 hx hZ hown (host := "") (Or.inl (hw _ (List.mem_of_getElem? (i := 13) rfl))) Via.refl e4 F_lacked_w_NO_TZAAR (g := (mkF m 26 #[.val (.ref w_TZAAR), .val .null, .val (.ref w_ENDINGS), .val (.int (5 : Int32)), .val (.int (1 : Int32)), .val (.ref w_NO_TZAAR)] [(.ref w_NO_TZAAR)])) rfl rfl (hb hby own_d1_26)
  refine Good.back st6 ?_
  show Good p e below _ (T6.setTop (mkF m 29 #[.val (.ref w_TZAAR), .val .null, .val (.ref w_ENDINGS), .val (.int (5 : Int32)), .val (.int (1 : Int32)), .val (.ref w_NO_TZAAR)] [(.ref w_TZAAR)]))
  refine Good.back (fun _ k => XS.aloadN X6.here hx rfl (hb hby own_d1_29) rfl rfl k) ?_
  show Good p e below _ (T6.setTop (mkF m 30 #[.val (.ref w_TZAAR), .val .null, .val (.ref w_ENDINGS), .val (.int (5 : Int32)), .val (.int (1 : Int32)), .val (.ref w_NO_TZAAR)] [(.ref w_TZAAR), (.ref w_TZAAR)]))
  refine Good.back (fun _ k => Jvm.RoadKit.acmp (g := (mkF m 30 #[.val (.ref w_TZAAR), .val .null, .val (.ref w_ENDINGS), .val (.int (5 : Int32)), .val (.int (1 : Int32)), .val (.ref w_NO_TZAAR)] [(.ref w_TZAAR), (.ref w_TZAAR)])) X6 hx rfl rfl rfl (pc0 := 30) (pc' := 33) (same := true) rfl (hb hby own_d1_30) rfl (decide_eq_true rfl) (by decide) (by decide) k) ?_
  show Good p e below _ (T6.setTop (mkF m 33 #[.val (.ref w_TZAAR), .val .null, .val (.ref w_ENDINGS), .val (.int (5 : Int32)), .val (.int (1 : Int32)), .val (.ref w_NO_TZAAR)] []))
  refine Good.back (fun _ k => XS.aload X6.here hx rfl (hb hby own_d1_33) rfl rfl k) ?_
  show Good p e below _ (T6.setTop (mkF m 35 #[.val (.ref w_TZAAR), .val .null, .val (.ref w_ENDINGS), .val (.int (5 : Int32)), .val (.int (1 : Int32)), .val (.ref w_NO_TZAAR)] [(.ref w_NO_TZAAR)]))
  refine Good.back (fun _ k => XS.astoreN X6.here hx rfl (hb hby own_d1_35) rfl rfl (l' := #[.val (.ref w_TZAAR), .val (.ref w_NO_TZAAR), .val (.ref w_ENDINGS), .val (.int (5 : Int32)), .val (.int (1 : Int32)), .val (.ref w_NO_TZAAR)]) rfl k) ?_
  show Good p e below _ (T6.setTop (mkF m 36 #[.val (.ref w_TZAAR), .val (.ref w_NO_TZAAR), .val (.ref w_ENDINGS), .val (.int (5 : Int32)), .val (.int (1 : Int32)), .val (.ref w_NO_TZAAR)] []))
  refine Good.back (fun _ k => XS.iinc X6.here hx rfl (hb hby own_d1_36) rfl (l' := #[.val (.ref w_TZAAR), .val (.ref w_NO_TZAAR), .val (.ref w_ENDINGS), .val (.int (5 : Int32)), .val (.int ((1 : Int32) + (1 : Int32))), .val (.ref w_NO_TZAAR)]) rfl k) ?_
  show Good p e below _ (T6.setTop (mkF m 39 #[.val (.ref w_TZAAR), .val (.ref w_NO_TZAAR), .val (.ref w_ENDINGS), .val (.int (5 : Int32)), .val (.int ((1 : Int32) + (1 : Int32))), .val (.ref w_NO_TZAAR)] []))
  rw [show (((1 : Int32) + (1 : Int32)) : Int32) = (2 : Int32) from by decide]
  show Good p e below _ (T6.setTop (mkF m 39 #[.val (.ref w_TZAAR), .val (.ref w_NO_TZAAR), .val (.ref w_ENDINGS), .val (.int (5 : Int32)), .val (.int (2 : Int32)), .val (.ref w_NO_TZAAR)] []))
  refine Good.back (fun _ k => XS.goto X6.here hx rfl (pc0 := 39) (pc' := 12) rfl (hb hby own_d1_39) (by decide) (by decide) k) ?_
  show Good p e below _ (T6.setTop (mkF m 12 #[.val (.ref w_TZAAR), .val (.ref w_NO_TZAAR), .val (.ref w_ENDINGS), .val (.int (5 : Int32)), .val (.int (2 : Int32)), .val (.ref w_NO_TZAAR)] []))
  refine Good.back (fun _ k => XS.iload X6.here hx rfl (hb hby own_d1_12) rfl k) ?_
  show Good p e below _ (T6.setTop (mkF m 14 #[.val (.ref w_TZAAR), .val (.ref w_NO_TZAAR), .val (.ref w_ENDINGS), .val (.int (5 : Int32)), .val (.int (2 : Int32)), .val (.ref w_NO_TZAAR)] [(.int (2 : Int32))]))
  refine Good.back (fun _ k => XS.iloadN X6.here hx rfl (hb hby own_d1_14) rfl k) ?_
  show Good p e below _ (T6.setTop (mkF m 15 #[.val (.ref w_TZAAR), .val (.ref w_NO_TZAAR), .val (.ref w_ENDINGS), .val (.int (5 : Int32)), .val (.int (2 : Int32)), .val (.ref w_NO_TZAAR)] [(.int (5 : Int32)), (.int (2 : Int32))]))
  refine Good.back (fun _ k => XS.icmpNo X6.here hx rfl (hb hby own_d1_15) rfl (tlt (by decide : ((2 : Int32) < (5 : Int32)))).2.1 k) ?_
  show Good p e below _ (T6.setTop (mkF m 18 #[.val (.ref w_TZAAR), .val (.ref w_NO_TZAAR), .val (.ref w_ENDINGS), .val (.int (5 : Int32)), .val (.int (2 : Int32)), .val (.ref w_NO_TZAAR)] []))
  refine Good.back (fun _ k => XS.aloadN X6.here hx rfl (hb hby own_d1_18) rfl rfl k) ?_
  show Good p e below _ (T6.setTop (mkF m 19 #[.val (.ref w_TZAAR), .val (.ref w_NO_TZAAR), .val (.ref w_ENDINGS), .val (.int (5 : Int32)), .val (.int (2 : Int32)), .val (.ref w_NO_TZAAR)] [(.ref w_ENDINGS)]))
  refine Good.back (fun _ k => XS.iload X6.here hx rfl (hb hby own_d1_19) rfl k) ?_
  show Good p e below _ (T6.setTop (mkF m 21 #[.val (.ref w_TZAAR), .val (.ref w_NO_TZAAR), .val (.ref w_ENDINGS), .val (.int (5 : Int32)), .val (.int (2 : Int32)), .val (.ref w_NO_TZAAR)] [(.int (2 : Int32)), (.ref w_ENDINGS)]))
  have fc7 := V_w_ENDINGS
  obtain ⟨cl7, Ar7, qk7, S7, N7', H7, G7⟩ := fc7
  have hin7 : ¬ ((2 : Int32) < 0 ∨ cl7.slots.size ≤ ((2 : Int32)).toNatClampNeg) := inb_of S7 ⟨by decide, by decide⟩
  have hat7 : cl7.slots[((2 : Int32)).toNatClampNeg]? = some (.ref w_NO_TZARRA) := Has.at H7 hin7 rfl
  refine Good.back (X6.aaload hx (j := (2 : Int32)) (v := (.ref w_NO_TZARRA)) (by rw [e6]; exact Ar7.1) (State.isArrayOf_alike hZ.alike Ar7.2.1) rfl Ar7.2.2 hin7 hat7 (g := (mkF m 21 #[.val (.ref w_TZAAR), .val (.ref w_NO_TZAAR), .val (.ref w_ENDINGS), .val (.int (5 : Int32)), .val (.int (2 : Int32)), .val (.ref w_NO_TZAAR)] [(.int (2 : Int32)), (.ref w_ENDINGS)])) rfl rfl (hb hby own_d1_21)) ?_
  show Good p e below _ (T6.setTop (mkF m 22 #[.val (.ref w_TZAAR), .val (.ref w_NO_TZAAR), .val (.ref w_ENDINGS), .val (.int (5 : Int32)), .val (.int (2 : Int32)), .val (.ref w_NO_TZAAR)] [(.ref w_NO_TZARRA)]))
  refine Good.back (fun _ k => XS.astore X6.here hx rfl (hb hby own_d1_22) rfl rfl (l' := #[.val (.ref w_TZAAR), .val (.ref w_NO_TZAAR), .val (.ref w_ENDINGS), .val (.int (5 : Int32)), .val (.int (2 : Int32)), .val (.ref w_NO_TZARRA)]) rfl k) ?_
  show Good p e below _ (T6.setTop (mkF m 24 #[.val (.ref w_TZAAR), .val (.ref w_NO_TZAAR), .val (.ref w_ENDINGS), .val (.int (5 : Int32)), .val (.int (2 : Int32)), .val (.ref w_NO_TZARRA)] []))
  refine Good.back (fun _ k => XS.aload X6.here hx rfl (hb hby own_d1_24) rfl rfl k) ?_
  show Good p e below _ (T6.setTop (mkF m 26 #[.val (.ref w_TZAAR), .val (.ref w_NO_TZAAR), .val (.ref w_ENDINGS), .val (.int (5 : Int32)), .val (.int (2 : Int32)), .val (.ref w_NO_TZARRA)] [(.ref w_NO_TZARRA)]))
  obtain ⟨T8, X8, e8, st8⟩ := getF X6 hx hZ hown (host := "") (Or.inl (hw _ (List.mem_of_getElem? (i := 13) rfl))) Via.refl e6 F_lacked_w_NO_TZARRA (g := (mkF m 26 #[.val (.ref w_TZAAR), .val (.ref w_NO_TZAAR), .val (.ref w_ENDINGS), .val (.int (5 : Int32)), .val (.int (2 : Int32)), .val (.ref w_NO_TZARRA)] [(.ref w_NO_TZARRA)])) rfl rfl (hb hby own_d1_26)
  refine Good.back st8 ?_
  show Good p e below _ (T8.setTop (mkF m 29 #[.val (.ref w_TZAAR), .val (.ref w_NO_TZAAR), .val (.ref w_ENDINGS), .val (.int (5 : Int32)), .val (.int (2 : Int32)), .val (.ref w_NO_TZARRA)] [(.ref w_TZARRA)]))
  refine Good.back (fun _ k => XS.aloadN X8.here hx rfl (hb hby own_d1_29) rfl rfl k) ?_
  show Good p e below _ (T8.setTop (mkF m 30 #[.val (.ref w_TZAAR), .val (.ref w_NO_TZAAR), .val (.ref w_ENDINGS), .val (.int (5 : Int32)), .val (.int (2 : Int32)), .val (.ref w_NO_TZARRA)] [(.ref w_TZAAR), (.ref w_TZARRA)]))
  refine Good.back (fun _ k => Jvm.RoadKit.acmp (g := (mkF m 30 #[.val (.ref w_TZAAR), .val (.ref w_NO_TZAAR), .val (.ref w_ENDINGS), .val (.int (5 : Int32)), .val (.int (2 : Int32)), .val (.ref w_NO_TZARRA)] [(.ref w_TZAAR), (.ref w_TZARRA)])) X8 hx rfl rfl rfl (pc0 := 30) (pc' := 36) (same := false) rfl (hb hby own_d1_30) rfl (decide_eq_false fun q => (Ne.symm ne_w_TZAAR_w_TZARRA) (Value.ref.inj q)) (by decide) (by decide) k) ?_
  show Good p e below _ (T8.setTop (mkF m 36 #[.val (.ref w_TZAAR), .val (.ref w_NO_TZAAR), .val (.ref w_ENDINGS), .val (.int (5 : Int32)), .val (.int (2 : Int32)), .val (.ref w_NO_TZARRA)] []))
  refine Good.back (fun _ k => XS.iinc X8.here hx rfl (hb hby own_d1_36) rfl (l' := #[.val (.ref w_TZAAR), .val (.ref w_NO_TZAAR), .val (.ref w_ENDINGS), .val (.int (5 : Int32)), .val (.int ((2 : Int32) + (1 : Int32))), .val (.ref w_NO_TZARRA)]) rfl k) ?_
  show Good p e below _ (T8.setTop (mkF m 39 #[.val (.ref w_TZAAR), .val (.ref w_NO_TZAAR), .val (.ref w_ENDINGS), .val (.int (5 : Int32)), .val (.int ((2 : Int32) + (1 : Int32))), .val (.ref w_NO_TZARRA)] []))
  rw [show (((2 : Int32) + (1 : Int32)) : Int32) = (3 : Int32) from by decide]
  show Good p e below _ (T8.setTop (mkF m 39 #[.val (.ref w_TZAAR), .val (.ref w_NO_TZAAR), .val (.ref w_ENDINGS), .val (.int (5 : Int32)), .val (.int (3 : Int32)), .val (.ref w_NO_TZARRA)] []))
  refine Good.back (fun _ k => XS.goto X8.here hx rfl (pc0 := 39) (pc' := 12) rfl (hb hby own_d1_39) (by decide) (by decide) k) ?_
  show Good p e below _ (T8.setTop (mkF m 12 #[.val (.ref w_TZAAR), .val (.ref w_NO_TZAAR), .val (.ref w_ENDINGS), .val (.int (5 : Int32)), .val (.int (3 : Int32)), .val (.ref w_NO_TZARRA)] []))
  refine Good.back (fun _ k => XS.iload X8.here hx rfl (hb hby own_d1_12) rfl k) ?_
  show Good p e below _ (T8.setTop (mkF m 14 #[.val (.ref w_TZAAR), .val (.ref w_NO_TZAAR), .val (.ref w_ENDINGS), .val (.int (5 : Int32)), .val (.int (3 : Int32)), .val (.ref w_NO_TZARRA)] [(.int (3 : Int32))]))
  refine Good.back (fun _ k => XS.iloadN X8.here hx rfl (hb hby own_d1_14) rfl k) ?_
  show Good p e below _ (T8.setTop (mkF m 15 #[.val (.ref w_TZAAR), .val (.ref w_NO_TZAAR), .val (.ref w_ENDINGS), .val (.int (5 : Int32)), .val (.int (3 : Int32)), .val (.ref w_NO_TZARRA)] [(.int (5 : Int32)), (.int (3 : Int32))]))
  refine Good.back (fun _ k => XS.icmpNo X8.here hx rfl (hb hby own_d1_15) rfl (tlt (by decide : ((3 : Int32) < (5 : Int32)))).2.1 k) ?_
  show Good p e below _ (T8.setTop (mkF m 18 #[.val (.ref w_TZAAR), .val (.ref w_NO_TZAAR), .val (.ref w_ENDINGS), .val (.int (5 : Int32)), .val (.int (3 : Int32)), .val (.ref w_NO_TZARRA)] []))
  refine Good.back (fun _ k => XS.aloadN X8.here hx rfl (hb hby own_d1_18) rfl rfl k) ?_
  show Good p e below _ (T8.setTop (mkF m 19 #[.val (.ref w_TZAAR), .val (.ref w_NO_TZAAR), .val (.ref w_ENDINGS), .val (.int (5 : Int32)), .val (.int (3 : Int32)), .val (.ref w_NO_TZARRA)] [(.ref w_ENDINGS)]))
  refine Good.back (fun _ k => XS.iload X8.here hx rfl (hb hby own_d1_19) rfl k) ?_
  show Good p e below _ (T8.setTop (mkF m 21 #[.val (.ref w_TZAAR), .val (.ref w_NO_TZAAR), .val (.ref w_ENDINGS), .val (.int (5 : Int32)), .val (.int (3 : Int32)), .val (.ref w_NO_TZARRA)] [(.int (3 : Int32)), (.ref w_ENDINGS)]))
  have fc9 := V_w_ENDINGS
  obtain ⟨cl9, Ar9, qk9, S9, N9', H9, G9⟩ := fc9
  have hin9 : ¬ ((3 : Int32) < 0 ∨ cl9.slots.size ≤ ((3 : Int32)).toNatClampNeg) := inb_of S9 ⟨by decide, by decide⟩
  have hat9 : cl9.slots[((3 : Int32)).toNatClampNeg]? = some (.ref w_NO_TOTT) := Has.at H9 hin9 rfl
  refine Good.back (X8.aaload hx (j := (3 : Int32)) (v := (.ref w_NO_TOTT)) (by rw [e8]; exact Ar9.1) (State.isArrayOf_alike hZ.alike Ar9.2.1) rfl Ar9.2.2 hin9 hat9 (g := (mkF m 21 #[.val (.ref w_TZAAR), .val (.ref w_NO_TZAAR), .val (.ref w_ENDINGS), .val (.int (5 : Int32)), .val (.int (3 : Int32)), .val (.ref w_NO_TZARRA)] [(.int (3 : Int32)), (.ref w_ENDINGS)])) rfl rfl (hb hby own_d1_21)) ?_
  show Good p e below _ (T8.setTop (mkF m 22 #[.val (.ref w_TZAAR), .val (.ref w_NO_TZAAR), .val (.ref w_ENDINGS), .val (.int (5 : Int32)), .val (.int (3 : Int32)), .val (.ref w_NO_TZARRA)] [(.ref w_NO_TOTT)]))
  refine Good.back (fun _ k => XS.astore X8.here hx rfl (hb hby own_d1_22) rfl rfl (l' := #[.val (.ref w_TZAAR), .val (.ref w_NO_TZAAR), .val (.ref w_ENDINGS), .val (.int (5 : Int32)), .val (.int (3 : Int32)), .val (.ref w_NO_TOTT)]) rfl k) ?_
  show Good p e below _ (T8.setTop (mkF m 24 #[.val (.ref w_TZAAR), .val (.ref w_NO_TZAAR), .val (.ref w_ENDINGS), .val (.int (5 : Int32)), .val (.int (3 : Int32)), .val (.ref w_NO_TOTT)] []))
  refine Good.back (fun _ k => XS.aload X8.here hx rfl (hb hby own_d1_24) rfl rfl k) ?_
  show Good p e below _ (T8.setTop (mkF m 26 #[.val (.ref w_TZAAR), .val (.ref w_NO_TZAAR), .val (.ref w_ENDINGS), .val (.int (5 : Int32)), .val (.int (3 : Int32)), .val (.ref w_NO_TOTT)] [(.ref w_NO_TOTT)]))
  obtain ⟨T10, X10, e10, st10⟩ := getF X8 hx hZ hown (host := "") (Or.inl (hw _ (List.mem_of_getElem? (i := 13) rfl))) Via.refl e8 F_lacked_w_NO_TOTT (g := (mkF m 26 #[.val (.ref w_TZAAR), .val (.ref w_NO_TZAAR), .val (.ref w_ENDINGS), .val (.int (5 : Int32)), .val (.int (3 : Int32)), .val (.ref w_NO_TOTT)] [(.ref w_NO_TOTT)])) rfl rfl (hb hby own_d1_26)
  refine Good.back st10 ?_
  show Good p e below _ (T10.setTop (mkF m 29 #[.val (.ref w_TZAAR), .val (.ref w_NO_TZAAR), .val (.ref w_ENDINGS), .val (.int (5 : Int32)), .val (.int (3 : Int32)), .val (.ref w_NO_TOTT)] [(.ref w_TOTT)]))
  refine Good.back (fun _ k => XS.aloadN X10.here hx rfl (hb hby own_d1_29) rfl rfl k) ?_
  show Good p e below _ (T10.setTop (mkF m 30 #[.val (.ref w_TZAAR), .val (.ref w_NO_TZAAR), .val (.ref w_ENDINGS), .val (.int (5 : Int32)), .val (.int (3 : Int32)), .val (.ref w_NO_TOTT)] [(.ref w_TZAAR), (.ref w_TOTT)]))
  refine Good.back (fun _ k => Jvm.RoadKit.acmp (g := (mkF m 30 #[.val (.ref w_TZAAR), .val (.ref w_NO_TZAAR), .val (.ref w_ENDINGS), .val (.int (5 : Int32)), .val (.int (3 : Int32)), .val (.ref w_NO_TOTT)] [(.ref w_TZAAR), (.ref w_TOTT)])) X10 hx rfl rfl rfl (pc0 := 30) (pc' := 36) (same := false) rfl (hb hby own_d1_30) rfl (decide_eq_false fun q => (Ne.symm ne_w_TZAAR_w_TOTT) (Value.ref.inj q)) (by decide) (by decide) k) ?_
  show Good p e below _ (T10.setTop (mkF m 36 #[.val (.ref w_TZAAR), .val (.ref w_NO_TZAAR), .val (.ref w_ENDINGS), .val (.int (5 : Int32)), .val (.int (3 : Int32)), .val (.ref w_NO_TOTT)] []))
  refine Good.back (fun _ k => XS.iinc X10.here hx rfl (hb hby own_d1_36) rfl (l' := #[.val (.ref w_TZAAR), .val (.ref w_NO_TZAAR), .val (.ref w_ENDINGS), .val (.int (5 : Int32)), .val (.int ((3 : Int32) + (1 : Int32))), .val (.ref w_NO_TOTT)]) rfl k) ?_
  show Good p e below _ (T10.setTop (mkF m 39 #[.val (.ref w_TZAAR), .val (.ref w_NO_TZAAR), .val (.ref w_ENDINGS), .val (.int (5 : Int32)), .val (.int ((3 : Int32) + (1 : Int32))), .val (.ref w_NO_TOTT)] []))
  rw [show (((3 : Int32) + (1 : Int32)) : Int32) = (4 : Int32) from by decide]
  show Good p e below _ (T10.setTop (mkF m 39 #[.val (.ref w_TZAAR), .val (.ref w_NO_TZAAR), .val (.ref w_ENDINGS), .val (.int (5 : Int32)), .val (.int (4 : Int32)), .val (.ref w_NO_TOTT)] []))
  refine Good.back (fun _ k => XS.goto X10.here hx rfl (pc0 := 39) (pc' := 12) rfl (hb hby own_d1_39) (by decide) (by decide) k) ?_
  show Good p e below _ (T10.setTop (mkF m 12 #[.val (.ref w_TZAAR), .val (.ref w_NO_TZAAR), .val (.ref w_ENDINGS), .val (.int (5 : Int32)), .val (.int (4 : Int32)), .val (.ref w_NO_TOTT)] []))
  refine Good.back (fun _ k => XS.iload X10.here hx rfl (hb hby own_d1_12) rfl k) ?_
  show Good p e below _ (T10.setTop (mkF m 14 #[.val (.ref w_TZAAR), .val (.ref w_NO_TZAAR), .val (.ref w_ENDINGS), .val (.int (5 : Int32)), .val (.int (4 : Int32)), .val (.ref w_NO_TOTT)] [(.int (4 : Int32))]))
  refine Good.back (fun _ k => XS.iloadN X10.here hx rfl (hb hby own_d1_14) rfl k) ?_
  show Good p e below _ (T10.setTop (mkF m 15 #[.val (.ref w_TZAAR), .val (.ref w_NO_TZAAR), .val (.ref w_ENDINGS), .val (.int (5 : Int32)), .val (.int (4 : Int32)), .val (.ref w_NO_TOTT)] [(.int (5 : Int32)), (.int (4 : Int32))]))
  refine Good.back (fun _ k => XS.icmpNo X10.here hx rfl (hb hby own_d1_15) rfl (tlt (by decide : ((4 : Int32) < (5 : Int32)))).2.1 k) ?_
  show Good p e below _ (T10.setTop (mkF m 18 #[.val (.ref w_TZAAR), .val (.ref w_NO_TZAAR), .val (.ref w_ENDINGS), .val (.int (5 : Int32)), .val (.int (4 : Int32)), .val (.ref w_NO_TOTT)] []))
  refine Good.back (fun _ k => XS.aloadN X10.here hx rfl (hb hby own_d1_18) rfl rfl k) ?_
  show Good p e below _ (T10.setTop (mkF m 19 #[.val (.ref w_TZAAR), .val (.ref w_NO_TZAAR), .val (.ref w_ENDINGS), .val (.int (5 : Int32)), .val (.int (4 : Int32)), .val (.ref w_NO_TOTT)] [(.ref w_ENDINGS)]))
  refine Good.back (fun _ k => XS.iload X10.here hx rfl (hb hby own_d1_19) rfl k) ?_
  show Good p e below _ (T10.setTop (mkF m 21 #[.val (.ref w_TZAAR), .val (.ref w_NO_TZAAR), .val (.ref w_ENDINGS), .val (.int (5 : Int32)), .val (.int (4 : Int32)), .val (.ref w_NO_TOTT)] [(.int (4 : Int32)), (.ref w_ENDINGS)]))
  have fc11 := V_w_ENDINGS
  obtain ⟨cl11, Ar11, qk11, S11, N11', H11, G11⟩ := fc11
  have hin11 : ¬ ((4 : Int32) < 0 ∨ cl11.slots.size ≤ ((4 : Int32)).toNatClampNeg) := inb_of S11 ⟨by decide, by decide⟩
  have hat11 : cl11.slots[((4 : Int32)).toNatClampNeg]? = some (.ref w_NO_CAPTURE) := Has.at H11 hin11 rfl
  refine Good.back (X10.aaload hx (j := (4 : Int32)) (v := (.ref w_NO_CAPTURE)) (by rw [e10]; exact Ar11.1) (State.isArrayOf_alike hZ.alike Ar11.2.1) rfl Ar11.2.2 hin11 hat11 (g := (mkF m 21 #[.val (.ref w_TZAAR), .val (.ref w_NO_TZAAR), .val (.ref w_ENDINGS), .val (.int (5 : Int32)), .val (.int (4 : Int32)), .val (.ref w_NO_TOTT)] [(.int (4 : Int32)), (.ref w_ENDINGS)])) rfl rfl (hb hby own_d1_21)) ?_
  show Good p e below _ (T10.setTop (mkF m 22 #[.val (.ref w_TZAAR), .val (.ref w_NO_TZAAR), .val (.ref w_ENDINGS), .val (.int (5 : Int32)), .val (.int (4 : Int32)), .val (.ref w_NO_TOTT)] [(.ref w_NO_CAPTURE)]))
  refine Good.back (fun _ k => XS.astore X10.here hx rfl (hb hby own_d1_22) rfl rfl (l' := #[.val (.ref w_TZAAR), .val (.ref w_NO_TZAAR), .val (.ref w_ENDINGS), .val (.int (5 : Int32)), .val (.int (4 : Int32)), .val (.ref w_NO_CAPTURE)]) rfl k) ?_
  show Good p e below _ (T10.setTop (mkF m 24 #[.val (.ref w_TZAAR), .val (.ref w_NO_TZAAR), .val (.ref w_ENDINGS), .val (.int (5 : Int32)), .val (.int (4 : Int32)), .val (.ref w_NO_CAPTURE)] []))
  refine Good.back (fun _ k => XS.aload X10.here hx rfl (hb hby own_d1_24) rfl rfl k) ?_
  show Good p e below _ (T10.setTop (mkF m 26 #[.val (.ref w_TZAAR), .val (.ref w_NO_TZAAR), .val (.ref w_ENDINGS), .val (.int (5 : Int32)), .val (.int (4 : Int32)), .val (.ref w_NO_CAPTURE)] [(.ref w_NO_CAPTURE)]))
  obtain ⟨T12, X12, e12, st12⟩ := getF X10 hx hZ hown (host := "") (Or.inl (hw _ (List.mem_of_getElem? (i := 13) rfl))) Via.refl e10 F_lacked_w_NO_CAPTURE (g := (mkF m 26 #[.val (.ref w_TZAAR), .val (.ref w_NO_TZAAR), .val (.ref w_ENDINGS), .val (.int (5 : Int32)), .val (.int (4 : Int32)), .val (.ref w_NO_CAPTURE)] [(.ref w_NO_CAPTURE)])) rfl rfl (hb hby own_d1_26)
  refine Good.back st12 ?_
  show Good p e below _ (T12.setTop (mkF m 29 #[.val (.ref w_TZAAR), .val (.ref w_NO_TZAAR), .val (.ref w_ENDINGS), .val (.int (5 : Int32)), .val (.int (4 : Int32)), .val (.ref w_NO_CAPTURE)] [.null]))
  refine Good.back (fun _ k => XS.aloadN X12.here hx rfl (hb hby own_d1_29) rfl rfl k) ?_
  show Good p e below _ (T12.setTop (mkF m 30 #[.val (.ref w_TZAAR), .val (.ref w_NO_TZAAR), .val (.ref w_ENDINGS), .val (.int (5 : Int32)), .val (.int (4 : Int32)), .val (.ref w_NO_CAPTURE)] [(.ref w_TZAAR), .null]))
  refine Good.back (fun _ k => Jvm.RoadKit.acmp (g := (mkF m 30 #[.val (.ref w_TZAAR), .val (.ref w_NO_TZAAR), .val (.ref w_ENDINGS), .val (.int (5 : Int32)), .val (.int (4 : Int32)), .val (.ref w_NO_CAPTURE)] [(.ref w_TZAAR), .null])) X12 hx rfl rfl rfl (pc0 := 30) (pc' := 36) (same := false) rfl (hb hby own_d1_30) rfl (decide_eq_false nofun) (by decide) (by decide) k) ?_
  show Good p e below _ (T12.setTop (mkF m 36 #[.val (.ref w_TZAAR), .val (.ref w_NO_TZAAR), .val (.ref w_ENDINGS), .val (.int (5 : Int32)), .val (.int (4 : Int32)), .val (.ref w_NO_CAPTURE)] []))
  refine Good.back (fun _ k => XS.iinc X12.here hx rfl (hb hby own_d1_36) rfl (l' := #[.val (.ref w_TZAAR), .val (.ref w_NO_TZAAR), .val (.ref w_ENDINGS), .val (.int (5 : Int32)), .val (.int ((4 : Int32) + (1 : Int32))), .val (.ref w_NO_CAPTURE)]) rfl k) ?_
  show Good p e below _ (T12.setTop (mkF m 39 #[.val (.ref w_TZAAR), .val (.ref w_NO_TZAAR), .val (.ref w_ENDINGS), .val (.int (5 : Int32)), .val (.int ((4 : Int32) + (1 : Int32))), .val (.ref w_NO_CAPTURE)] []))
  rw [show (((4 : Int32) + (1 : Int32)) : Int32) = (5 : Int32) from by decide]
  show Good p e below _ (T12.setTop (mkF m 39 #[.val (.ref w_TZAAR), .val (.ref w_NO_TZAAR), .val (.ref w_ENDINGS), .val (.int (5 : Int32)), .val (.int (5 : Int32)), .val (.ref w_NO_CAPTURE)] []))
  refine Good.back (fun _ k => XS.goto X12.here hx rfl (pc0 := 39) (pc' := 12) rfl (hb hby own_d1_39) (by decide) (by decide) k) ?_
  show Good p e below _ (T12.setTop (mkF m 12 #[.val (.ref w_TZAAR), .val (.ref w_NO_TZAAR), .val (.ref w_ENDINGS), .val (.int (5 : Int32)), .val (.int (5 : Int32)), .val (.ref w_NO_CAPTURE)] []))
  refine Good.back (fun _ k => XS.iload X12.here hx rfl (hb hby own_d1_12) rfl k) ?_
  show Good p e below _ (T12.setTop (mkF m 14 #[.val (.ref w_TZAAR), .val (.ref w_NO_TZAAR), .val (.ref w_ENDINGS), .val (.int (5 : Int32)), .val (.int (5 : Int32)), .val (.ref w_NO_CAPTURE)] [(.int (5 : Int32))]))
  refine Good.back (fun _ k => XS.iloadN X12.here hx rfl (hb hby own_d1_14) rfl k) ?_
  show Good p e below _ (T12.setTop (mkF m 15 #[.val (.ref w_TZAAR), .val (.ref w_NO_TZAAR), .val (.ref w_ENDINGS), .val (.int (5 : Int32)), .val (.int (5 : Int32)), .val (.ref w_NO_CAPTURE)] [(.int (5 : Int32)), (.int (5 : Int32))]))
  refine Good.back (fun _ k => XS.icmpYes X12.here hx rfl (pc0 := 15) (pc' := 42) rfl (hb hby own_d1_15) rfl (flt (by decide : ¬ ((5 : Int32) < (5 : Int32)))).2.1 (by decide) (by decide) k) ?_
  show Good p e below _ (T12.setTop (mkF m 42 #[.val (.ref w_TZAAR), .val (.ref w_NO_TZAAR), .val (.ref w_ENDINGS), .val (.int (5 : Int32)), .val (.int (5 : Int32)), .val (.ref w_NO_CAPTURE)] []))
  refine Good.back (fun _ k => XS.aloadN X12.here hx rfl (hb hby own_d1_42) rfl rfl k) ?_
  show Good p e below _ (T12.setTop (mkF m 43 #[.val (.ref w_TZAAR), .val (.ref w_NO_TZAAR), .val (.ref w_ENDINGS), .val (.int (5 : Int32)), .val (.int (5 : Int32)), .val (.ref w_NO_CAPTURE)] [(.ref w_NO_TZAAR)]))
  obtain ⟨fs13, hr13, hrun13, hended13, hW13, hsame13⟩ := X12.leave (v := some (.ref w_NO_TZAAR)) (fun h => by rw [Bd.returns] at h; cases h)
  refine Good.done (retOut X12 hx Bd.returns rfl (Or.inr (Or.inr (Or.inr (Or.inr ⟨rfl, rfl, rfl⟩)))) (hb hby own_d1_43) hr13) hrun13 hended13 ⟨_, _, rfl, ?_, ⟨_, rfl⟩, hW13, hsame13.mono (by decide) (by decide)⟩
  show Q1_TZAAR Z w_TOTT w_NO_TOTT w_ENDINGS w_IN_PROGRESS w_NO_TZAAR w_TZAAR w_NO_TZARRA w_TZARRA w_NO_CAPTURE kc_w_ENDINGS h0 n0 _ T12.heap _
  rw [e12]
  exact ⟨rfl, N0, rfl⟩
theorem own_pd26 : parseMethodDescriptor "(Lcom/example/trinode/trinode/tzaar/PieceType;)Lcom/example/trinode/trinode/tzaar/Ending;" = some ⟨[(.object "com/example/trinode/trinode/tzaar/PieceType")], some (.object "com/example/trinode/trinode/tzaar/Ending")⟩ := by decide +kernel
theorem own_pn1 : plainName "com/example/trinode/trinode/tzaar/EndingWithoutPinLaw" = true := by first | (simp [plainName, overriddenIn]; done) | decide +kernel
theorem own_ef_0 (m : MethodId) (x0 : Int32) : entryFrame m #[(.int x0)] maxLocals = mkF m 0 #[.val (.int x0), .unset, .unset, .unset, .unset] [] := by first | (simp [entryFrame, mkF, argsToLocals, Value.category, maxLocals]; done) | rfl
def Q0 (Z : State) (p0 : Int32) (w_TOTT : Addr) (w_NO_TOTT : Addr) (w_ENDINGS : Addr) (w_IN_PROGRESS : Addr) (w_NO_TZAAR : Addr) (w_TZAAR : Addr) (w_NO_TZARRA : Addr) (w_TZARRA : Addr) (w_NO_CAPTURE : Addr) (kc_w_ENDINGS : ClassId) (h0 : Heap) (n0 : Nat) (v : Option Value) (h : Heap) (L : List Loc) : Prop := v = some (.int 1) ∧ Fr n0 L
set_option maxRecDepth 65536 in
set_option maxHeartbeats 40000000 in
theorem rm0 (l : Launch) (Z : State) (a0 : Array Value) (hw : ∀ d ∈ tables_1, d.before a0 Z = true) (ws : List Jvm.Cond) (p0 : Int32) (w_TOTT : Addr) (w_NO_TOTT : Addr) (w_ENDINGS : Addr) (w_IN_PROGRESS : Addr) (w_NO_TZAAR : Addr) (w_TZAAR : Addr) (w_NO_TZARRA : Addr) (w_TZARRA : Addr) (w_NO_CAPTURE : Addr) (kc_w_ENDINGS : ClassId) (h0 : Heap) (n0 : Nat) (Z0 : n0 ≤ h0.size) (S_w_TOTT : Sta Z h0 "com/example/trinode/trinode/tzaar/PieceType" "TOTT" "Lcom/example/trinode/trinode/tzaar/PieceType;" (.ref w_TOTT)) (E_w_TOTT : Exa Z h0 w_TOTT "com/example/trinode/trinode/tzaar/PieceType") (S_w_NO_TOTT : Sta Z h0 "com/example/trinode/trinode/tzaar/Ending" "NO_TOTT" "Lcom/example/trinode/trinode/tzaar/Ending;" (.ref w_NO_TOTT)) (E_w_NO_TOTT : Exa Z h0 w_NO_TOTT "com/example/trinode/trinode/tzaar/Ending") (S_w_ENDINGS : Sta Z h0 "com/example/trinode/trinode/tzaar/Ending" "ENDINGS" "[Lcom/example/trinode/trinode/tzaar/Ending;" (.ref w_ENDINGS)) (S_w_IN_PROGRESS : Sta Z h0 "com/example/trinode/trinode/tzaar/Ending" "IN_PROGRESS" "Lcom/example/trinode/trinode/tzaar/Ending;" (.ref w_IN_PROGRESS)) (E_w_IN_PROGRESS : Exa Z h0 w_IN_PROGRESS "com/example/trinode/trinode/tzaar/Ending") (S_w_NO_TZAAR : Sta Z h0 "com/example/trinode/trinode/tzaar/Ending" "NO_TZAAR" "Lcom/example/trinode/trinode/tzaar/Ending;" (.ref w_NO_TZAAR)) (E_w_NO_TZAAR : Exa Z h0 w_NO_TZAAR "com/example/trinode/trinode/tzaar/Ending") (S_w_TZAAR : Sta Z h0 "com/example/trinode/trinode/tzaar/PieceType" "TZAAR" "Lcom/example/trinode/trinode/tzaar/PieceType;" (.ref w_TZAAR)) (E_w_TZAAR : Exa Z h0 w_TZAAR "com/example/trinode/trinode/tzaar/PieceType") (S_w_NO_TZARRA : Sta Z h0 "com/example/trinode/trinode/tzaar/Ending" "NO_TZARRA" "Lcom/example/trinode/trinode/tzaar/Ending;" (.ref w_NO_TZARRA)) (E_w_NO_TZARRA : Exa Z h0 w_NO_TZARRA "com/example/trinode/trinode/tzaar/Ending") (S_w_TZARRA : Sta Z h0 "com/example/trinode/trinode/tzaar/PieceType" "TZARRA" "Lcom/example/trinode/trinode/tzaar/PieceType;" (.ref w_TZARRA)) (E_w_TZARRA : Exa Z h0 w_TZARRA "com/example/trinode/trinode/tzaar/PieceType") (S_w_NO_CAPTURE : Sta Z h0 "com/example/trinode/trinode/tzaar/Ending" "NO_CAPTURE" "Lcom/example/trinode/trinode/tzaar/Ending;" (.ref w_NO_CAPTURE)) (E_w_NO_CAPTURE : Exa Z h0 w_NO_CAPTURE "com/example/trinode/trinode/tzaar/Ending") (F_lacked_w_IN_PROGRESS : Fld Z h0 w_IN_PROGRESS "com/example/trinode/trinode/tzaar/Ending" "lacked" "Lcom/example/trinode/trinode/tzaar/PieceType;" .null) (F_lacked_w_NO_TZAAR : Fld Z h0 w_NO_TZAAR "com/example/trinode/trinode/tzaar/Ending" "lacked" "Lcom/example/trinode/trinode/tzaar/PieceType;" (.ref w_TZAAR)) (F_ordinal_w_TZAAR : Fld Z h0 w_TZAAR "java/lang/Enum" "ordinal" "I" (.int (2 : Int32))) (F_ordinal_w_TOTT : Fld Z h0 w_TOTT "java/lang/Enum" "ordinal" "I" (.int (0 : Int32))) (F_lacked_w_NO_TZARRA : Fld Z h0 w_NO_TZARRA "com/example/trinode/trinode/tzaar/Ending" "lacked" "Lcom/example/trinode/trinode/tzaar/PieceType;" (.ref w_TZARRA)) (F_ordinal_w_TZARRA : Fld Z h0 w_TZARRA "java/lang/Enum" "ordinal" "I" (.int (1 : Int32))) (F_lacked_w_NO_TOTT : Fld Z h0 w_NO_TOTT "com/example/trinode/trinode/tzaar/Ending" "lacked" "Lcom/example/trinode/trinode/tzaar/PieceType;" (.ref w_TOTT)) (F_lacked_w_NO_CAPTURE : Fld Z h0 w_NO_CAPTURE "com/example/trinode/trinode/tzaar/Ending" "lacked" "Lcom/example/trinode/trinode/tzaar/PieceType;" .null) (V_w_ENDINGS : Arv Z h0 w_ENDINGS kc_w_ENDINGS (.object "com/example/trinode/trinode/tzaar/Ending") (5 : Int32) [(.ref w_IN_PROGRESS), (.ref w_NO_TZAAR), (.ref w_NO_TZARRA), (.ref w_NO_TOTT), (.ref w_NO_CAPTURE)] .null) (ne_w_TZAAR_w_TOTT : w_TZAAR ≠ w_TOTT) (ne_w_TZAAR_w_TZARRA : w_TZAAR ≠ w_TZARRA) (ne_w_TOTT_w_TZARRA : w_TOTT ≠ w_TZARRA) :
    MetFree l x (head1 (Jvm.Cond.code x code maxLocals ret :: ws) room_1) (fun a U => a = #[(.int p0)] ∧ Z.Warmed39 U.vm ∧ U.heap = h0) (fun _ _ _ _ _ => True) (fun _ U o U' => ∃ v L, o = .returned v ∧ Q0 Z p0 w_TOTT w_NO_TOTT w_ENDINGS w_IN_PROGRESS w_NO_TZAAR w_TZAAR w_NO_TZARRA w_TZARRA w_NO_CAPTURE kc_w_ENDINGS h0 n0 v U'.heap L ∧ FrameEnd U o U' L 0 0) := by
  refine MetFree.of_bodySF (plainFor_of_name own_pn1) hisR ?_
  intro p e s m args below meth c s₁ Bd hml0 hP hK
  obtain ⟨rfl, hZ, hh⟩ := hP
  have hx := Bd.exec
  have hby := Bd.bytes
  have hml : c.maxLocals = 5 := hml0
  have hown : s.vm.findClass "com/example/trinode/trinode/tzaar/EndingWithoutPinLaw" = some m.cls := findClass_of_methodNamed Bd.named
  have hnm := (name_of_methodNamed Bd.named Bd.method).1
  have X0 : Stand p l e room_1 s m #[(.int p0)] below meth c s₁ [] 0 0 := Stand.of_body Bd
  have e0 : s₁.heap = h0 := by rw [← hh, Bd.state]; rfl
  have N0 := Fr.nil n0
  show Good p e below (fun o U' => ∃ v L, o = .returned v ∧ Q0 Z p0 w_TOTT w_NO_TOTT w_ENDINGS w_IN_PROGRESS w_NO_TZAAR w_TZAAR w_NO_TZARRA w_TZARRA w_NO_CAPTURE kc_w_ENDINGS h0 n0 v U'.heap L ∧ FrameEnd s o U' L 0 0) _
  refine Good.back (S' := s₁.setTop (mkF m 0 #[.val (.int p0), .unset, .unset, .unset, .unset] [])) (fun t k => castTop (own_ef_0 m p0) k) ?_
  show Good p e below _ (s₁.setTop (mkF m 0 #[.val (.int p0), .unset, .unset, .unset, .unset] []))
  refine Good.back (fun _ k => XS.iloadN X0.here hx rfl (hb hby at_0) rfl k) ?_
  show Good p e below _ (s₁.setTop (mkF m 1 #[.val (.int p0), .unset, .unset, .unset, .unset] [(.int p0)]))
  refine Good.back (X0.ldcInt hx hown (mvT hZ (hw _ (List.mem_of_getElem? (i := 0) rfl))) (g := (mkF m 1 #[.val (.int p0), .unset, .unset, .unset, .unset] [(.int p0)])) rfl (hb hby at_1)) ?_
  show Good p e below _ (s₁.setTop (mkF m 3 #[.val (.int p0), .unset, .unset, .unset, .unset] [(.int (2147483647 : Int32)), (.int p0)]))
  refine Good.back (fun _ k => XS.iand X0.here hx rfl (hb hby at_3) rfl k) ?_
  show Good p e below _ (s₁.setTop (mkF m 4 #[.val (.int p0), .unset, .unset, .unset, .unset] [(.int (p0 &&& (2147483647 : Int32)))]))
  refine Good.back (fun _ k => XS.iconst X0.here hx rfl (hb hby at_4) k) ?_
  show Good p e below _ (s₁.setTop (mkF m 5 #[.val (.int p0), .unset, .unset, .unset, .unset] [(.int (3 : Int32)), (.int (p0 &&& (2147483647 : Int32)))]))
  refine Good.back (fun _ k => iremM (g := (mkF m 5 #[.val (.int p0), .unset, .unset, .unset, .unset] [(.int (3 : Int32)), (.int (p0 &&& (2147483647 : Int32)))])) X0 hx rfl (hb hby at_5) rfl (by decide) k) ?_
  show Good p e below _ (s₁.setTop (mkF m 6 #[.val (.int p0), .unset, .unset, .unset, .unset] [(.int ((p0 &&& (2147483647 : Int32)) % (3 : Int32)))]))
  refine Good.back (fun _ k => XS.istoreN X0.here hx rfl (hb hby at_6) rfl (l' := #[.val (.int p0), .val (.int ((p0 &&& (2147483647 : Int32)) % (3 : Int32))), .unset, .unset, .unset]) rfl k) ?_
  show Good p e below _ (s₁.setTop (mkF m 7 #[.val (.int p0), .val (.int ((p0 &&& (2147483647 : Int32)) % (3 : Int32))), .unset, .unset, .unset] []))
  obtain ⟨k1, hk1, he1⟩ := own_modm (x := p0) (y := 3) (d := 3) (n := 3) (by decide) (by decide) (by decide)
  rcases (by omega : k1 = 0 ∨ k1 = 1 ∨ k1 = 2) with rfl | rfl | rfl
  · have he1' : ((p0 &&& (2147483647 : Int32)) % (3 : Int32)) = (0 : Int32) := he1
    rw [he1']
    show Good p e below _ (s₁.setTop (mkF m 7 #[.val (.int p0), .val (.int (0 : Int32)), .unset, .unset, .unset] []))
    refine Good.back (fun _ k => XS.iloadN X0.here hx rfl (hb hby at_7) rfl k) ?_
    show Good p e below _ (s₁.setTop (mkF m 8 #[.val (.int p0), .val (.int (0 : Int32)), .unset, .unset, .unset] [(.int (0 : Int32))]))
    refine Good.back (fun _ k => XS.ifNo X0.here hx rfl (hb hby at_8) rfl ((if0 _ _).trans (teq (by decide : ((0 : Int32) = (0 : Int32)))).2) k) ?_
    show Good p e below _ (s₁.setTop (mkF m 11 #[.val (.int p0), .val (.int (0 : Int32)), .unset, .unset, .unset] []))
    obtain ⟨T2, X2, e2, st2⟩ := getS2 X0 hx hZ hown (host := "") (Or.inl (hw _ (List.mem_of_getElem? (i := 1) rfl))) Via.refl e0 S_w_TOTT (g := (mkF m 11 #[.val (.int p0), .val (.int (0 : Int32)), .unset, .unset, .unset] [])) rfl (hb hby at_11)
    refine Good.back st2 ?_
    show Good p e below _ (T2.setTop (mkF m 14 #[.val (.int p0), .val (.int (0 : Int32)), .unset, .unset, .unset] [(.ref w_TOTT)]))
    refine Good.back (fun _ k => XS.astoreN X2.here hx rfl (hb hby at_14) rfl rfl (l' := #[.val (.int p0), .val (.int (0 : Int32)), .val (.ref w_TOTT), .unset, .unset]) rfl k) ?_
    show Good p e below _ (T2.setTop (mkF m 15 #[.val (.int p0), .val (.int (0 : Int32)), .val (.ref w_TOTT), .unset, .unset] []))
    obtain ⟨T3, X3, e3, st3⟩ := getS2 X2 hx hZ hown (host := "") (Or.inl (hw _ (List.mem_of_getElem? (i := 4) rfl))) Via.refl e2 S_w_NO_TOTT (g := (mkF m 15 #[.val (.int p0), .val (.int (0 : Int32)), .val (.ref w_TOTT), .unset, .unset] [])) rfl (hb hby at_15)
    refine Good.back st3 ?_
    show Good p e below _ (T3.setTop (mkF m 18 #[.val (.int p0), .val (.int (0 : Int32)), .val (.ref w_TOTT), .unset, .unset] [(.ref w_NO_TOTT)]))
    refine Good.back (fun _ k => XS.astoreN X3.here hx rfl (hb hby at_18) rfl rfl (l' := #[.val (.int p0), .val (.int (0 : Int32)), .val (.ref w_TOTT), .val (.ref w_NO_TOTT), .unset]) rfl k) ?_
    show Good p e below _ (T3.setTop (mkF m 19 #[.val (.int p0), .val (.int (0 : Int32)), .val (.ref w_TOTT), .val (.ref w_NO_TOTT), .unset] []))
    refine Good.back (fun _ k => XS.goto X3.here hx rfl (pc0 := 19) (pc' := 46) rfl (hb hby at_19) (by decide) (by decide) k) ?_
    show Good p e below _ (T3.setTop (mkF m 46 #[.val (.int p0), .val (.int (0 : Int32)), .val (.ref w_TOTT), .val (.ref w_NO_TOTT), .unset] []))
    refine Good.back (fun _ k => XS.aloadN X3.here hx rfl (hb hby at_46) rfl rfl k) ?_
    show Good p e below _ (T3.setTop (mkF m 47 #[.val (.int p0), .val (.int (0 : Int32)), .val (.ref w_TOTT), .val (.ref w_NO_TOTT), .unset] [(.ref w_TOTT)]))
    obtain ⟨_, _, ⟨T4, L4, k4, n4⟩, -, X4, ⟨Lc4, hQ4, l4, y4, z4⟩, st4⟩ := Jvm.LawKit.callS X3 hx (y := (⟨"com/example/trinode/trinode/tzaar/Ending", "without", "(Lcom/example/trinode/trinode/tzaar/PieceType;)Lcom/example/trinode/trinode/tzaar/Ending;"⟩ : MethodName)) hown (mvT hZ (hw _ (List.mem_of_getElem? (i := 7) rfl))) (mvT hZ (hw _ (List.mem_of_getElem? (i := 8) rfl))) (mvT hZ (hw _ (List.mem_of_getElem? (i := 5) rfl))) (mvT hZ (hw _ (List.mem_of_getElem? (i := 9) rfl))) (by decide) (backOf (W := 0) (rm1_TOTT l Z a0 hw []  w_TOTT w_NO_TOTT w_ENDINGS w_IN_PROGRESS w_NO_TZAAR w_TZAAR w_NO_TZARRA w_TZARRA w_NO_CAPTURE kc_w_ENDINGS h0 n0 Z0 S_w_TOTT E_w_TOTT S_w_NO_TOTT E_w_NO_TOTT S_w_ENDINGS S_w_IN_PROGRESS E_w_IN_PROGRESS S_w_NO_TZAAR E_w_NO_TZAAR S_w_TZAAR E_w_TZAAR S_w_NO_TZARRA E_w_NO_TZARRA S_w_TZARRA E_w_TZARRA S_w_NO_CAPTURE E_w_NO_CAPTURE F_lacked_w_IN_PROGRESS F_lacked_w_NO_TZAAR F_ordinal_w_TZAAR F_ordinal_w_TOTT F_lacked_w_NO_TZARRA F_ordinal_w_TZARRA F_lacked_w_NO_TOTT F_lacked_w_NO_CAPTURE V_w_ENDINGS ne_w_TZAAR_w_TOTT ne_w_TZAAR_w_TZARRA ne_w_TOTT_w_TZARRA) hZ (hw _ (List.mem_of_getElem? (i := 9) rfl)) (hw _ (List.mem_of_getElem? (i := 5) rfl)) (by decide) (by decide)) (g := (mkF m 47 #[.val (.int p0), .val (.int (0 : Int32)), .val (.ref w_TOTT), .val (.ref w_NO_TOTT), .unset] [(.ref w_TOTT)])) rfl (by rw [hml]; rfl) (argsL := [(.ref w_TOTT)]) (rest := []) (lenOf own_pd26 rfl) rfl (by show 2 * 0 + _ ≤ _; exact Nat.le_of_eq rfl) (hb hby at_47) (fun _ _ => ⟨rfl, e3, (by decide : 0 + 0 ≤ _), (by decide : 0 + 0 ≤ _)⟩)
    dsimp only [Pt.U, Pt.locs, Pt.cells, Pt.slots] at X4 l4 y4 z4 st4 hQ4
    subst l4 y4 z4
    obtain ⟨rfl, N4q, eh4⟩ := hQ4
    have N4 := Fr.app N0 N4q
    refine Good.back st4 ?_
    show Good p e below _ (T4.setTop (mkF m 50 #[.val (.int p0), .val (.int (0 : Int32)), .val (.ref w_TOTT), .val (.ref w_NO_TOTT), .unset] [(.ref w_NO_TOTT)]))
    refine Good.back (fun _ k => XS.astore X4.here hx rfl (hb hby at_50) rfl rfl (l' := #[.val (.int p0), .val (.int (0 : Int32)), .val (.ref w_TOTT), .val (.ref w_NO_TOTT), .val (.ref w_NO_TOTT)]) rfl k) ?_
    show Good p e below _ (T4.setTop (mkF m 52 #[.val (.int p0), .val (.int (0 : Int32)), .val (.ref w_TOTT), .val (.ref w_NO_TOTT), .val (.ref w_NO_TOTT)] []))
    refine Good.back (fun _ k => XS.aload X4.here hx rfl (hb hby at_52) rfl rfl k) ?_
    show Good p e below _ (T4.setTop (mkF m 54 #[.val (.int p0), .val (.int (0 : Int32)), .val (.ref w_TOTT), .val (.ref w_NO_TOTT), .val (.ref w_NO_TOTT)] [(.ref w_NO_TOTT)]))
    refine Good.back (fun _ k => XS.aloadN X4.here hx rfl (hb hby at_54) rfl rfl k) ?_
    show Good p e below _ (T4.setTop (mkF m 55 #[.val (.int p0), .val (.int (0 : Int32)), .val (.ref w_TOTT), .val (.ref w_NO_TOTT), .val (.ref w_NO_TOTT)] [(.ref w_NO_TOTT), (.ref w_NO_TOTT)]))
    refine Good.back (fun _ k => Jvm.RoadKit.acmp (g := (mkF m 55 #[.val (.int p0), .val (.int (0 : Int32)), .val (.ref w_TOTT), .val (.ref w_NO_TOTT), .val (.ref w_NO_TOTT)] [(.ref w_NO_TOTT), (.ref w_NO_TOTT)])) X4 hx rfl rfl rfl (pc0 := 55) (pc' := 58) (same := true) rfl (hb hby at_55) rfl (decide_eq_true rfl) (by decide) (by decide) k) ?_
    show Good p e below _ (T4.setTop (mkF m 58 #[.val (.int p0), .val (.int (0 : Int32)), .val (.ref w_TOTT), .val (.ref w_NO_TOTT), .val (.ref w_NO_TOTT)] []))
    refine Good.back (fun _ k => XS.iconst X4.here hx rfl (hb hby at_58) k) ?_
    show Good p e below _ (T4.setTop (mkF m 59 #[.val (.int p0), .val (.int (0 : Int32)), .val (.ref w_TOTT), .val (.ref w_NO_TOTT), .val (.ref w_NO_TOTT)] [(.int (1 : Int32))]))
    refine Good.back (fun _ k => XS.goto X4.here hx rfl (pc0 := 59) (pc' := 63) rfl (hb hby at_59) (by decide) (by decide) k) ?_
    show Good p e below _ (T4.setTop (mkF m 63 #[.val (.int p0), .val (.int (0 : Int32)), .val (.ref w_TOTT), .val (.ref w_NO_TOTT), .val (.ref w_NO_TOTT)] [(.int (1 : Int32))]))
    obtain ⟨fs5, hr5, hrun5, hended5, hW5, hsame5⟩ := X4.leave (v := some (.int (1 : Int32))) (fun h => by rw [Bd.returns] at h; cases h)
    refine Good.done (retN X4 hx (t := .boolean) Bd.returns (by simp) (hb hby at_63) hr5) hrun5 hended5 ⟨_, _, rfl, ?_, ⟨_, rfl⟩, hW5, hsame5.mono (by decide) (by decide)⟩
    show Q0 Z p0 w_TOTT w_NO_TOTT w_ENDINGS w_IN_PROGRESS w_NO_TZAAR w_TZAAR w_NO_TZARRA w_TZARRA w_NO_CAPTURE kc_w_ENDINGS h0 n0 _ T4.heap _
    rw [eh4]
    exact ⟨rfl, N4⟩
  · have he1' : ((p0 &&& (2147483647 : Int32)) % (3 : Int32)) = (1 : Int32) := he1
    rw [he1']
    show Good p e below _ (s₁.setTop (mkF m 7 #[.val (.int p0), .val (.int (1 : Int32)), .unset, .unset, .unset] []))
    refine Good.back (fun _ k => XS.iloadN X0.here hx rfl (hb hby at_7) rfl k) ?_
    show Good p e below _ (s₁.setTop (mkF m 8 #[.val (.int p0), .val (.int (1 : Int32)), .unset, .unset, .unset] [(.int (1 : Int32))]))
    refine Good.back (fun _ k => XS.ifYes X0.here hx rfl (pc0 := 8) (pc' := 22) rfl (hb hby at_8) rfl ((if0 _ _).trans (feq (by decide : ¬ ((1 : Int32) = (0 : Int32)))).2) (by decide) (by decide) k) ?_
    show Good p e below _ (s₁.setTop (mkF m 22 #[.val (.int p0), .val (.int (1 : Int32)), .unset, .unset, .unset] []))
    refine Good.back (fun _ k => XS.iloadN X0.here hx rfl (hb hby at_22) rfl k) ?_
    show Good p e below _ (s₁.setTop (mkF m 23 #[.val (.int p0), .val (.int (1 : Int32)), .unset, .unset, .unset] [(.int (1 : Int32))]))
    refine Good.back (fun _ k => XS.iconst X0.here hx rfl (hb hby at_23) k) ?_
    show Good p e below _ (s₁.setTop (mkF m 24 #[.val (.int p0), .val (.int (1 : Int32)), .unset, .unset, .unset] [(.int (1 : Int32)), (.int (1 : Int32))]))
    refine Good.back (fun _ k => XS.icmpNo X0.here hx rfl (hb hby at_24) rfl (teq (by decide : ((1 : Int32) = (1 : Int32)))).2 k) ?_
    show Good p e below _ (s₁.setTop (mkF m 27 #[.val (.int p0), .val (.int (1 : Int32)), .unset, .unset, .unset] []))
    obtain ⟨T6, X6, e6, st6⟩ := getS2 X0 hx hZ hown (host := "") (Or.inl (hw _ (List.mem_of_getElem? (i := 22) rfl))) Via.refl e0 S_w_TZARRA (g := (mkF m 27 #[.val (.int p0), .val (.int (1 : Int32)), .unset, .unset, .unset] [])) rfl (hb hby at_27)
    refine Good.back st6 ?_
    show Good p e below _ (T6.setTop (mkF m 30 #[.val (.int p0), .val (.int (1 : Int32)), .unset, .unset, .unset] [(.ref w_TZARRA)]))
    refine Good.back (fun _ k => XS.astoreN X6.here hx rfl (hb hby at_30) rfl rfl (l' := #[.val (.int p0), .val (.int (1 : Int32)), .val (.ref w_TZARRA), .unset, .unset]) rfl k) ?_
    show Good p e below _ (T6.setTop (mkF m 31 #[.val (.int p0), .val (.int (1 : Int32)), .val (.ref w_TZARRA), .unset, .unset] []))
    obtain ⟨T7, X7, e7, st7⟩ := getS2 X6 hx hZ hown (host := "") (Or.inl (hw _ (List.mem_of_getElem? (i := 23) rfl))) Via.refl e6 S_w_NO_TZARRA (g := (mkF m 31 #[.val (.int p0), .val (.int (1 : Int32)), .val (.ref w_TZARRA), .unset, .unset] [])) rfl (hb hby at_31)
    refine Good.back st7 ?_
    show Good p e below _ (T7.setTop (mkF m 34 #[.val (.int p0), .val (.int (1 : Int32)), .val (.ref w_TZARRA), .unset, .unset] [(.ref w_NO_TZARRA)]))
    refine Good.back (fun _ k => XS.astoreN X7.here hx rfl (hb hby at_34) rfl rfl (l' := #[.val (.int p0), .val (.int (1 : Int32)), .val (.ref w_TZARRA), .val (.ref w_NO_TZARRA), .unset]) rfl k) ?_
    show Good p e below _ (T7.setTop (mkF m 35 #[.val (.int p0), .val (.int (1 : Int32)), .val (.ref w_TZARRA), .val (.ref w_NO_TZARRA), .unset] []))
    refine Good.back (fun _ k => XS.goto X7.here hx rfl (pc0 := 35) (pc' := 46) rfl (hb hby at_35) (by decide) (by decide) k) ?_
    show Good p e below _ (T7.setTop (mkF m 46 #[.val (.int p0), .val (.int (1 : Int32)), .val (.ref w_TZARRA), .val (.ref w_NO_TZARRA), .unset] []))
    refine Good.back (fun _ k => XS.aloadN X7.here hx rfl (hb hby at_46) rfl rfl k) ?_
    show Good p e below _ (T7.setTop (mkF m 47 #[.val (.int p0), .val (.int (1 : Int32)), .val (.ref w_TZARRA), .val (.ref w_NO_TZARRA), .unset] [(.ref w_TZARRA)]))
    obtain ⟨_, _, ⟨T8, L8, k8, n8⟩, -, X8, ⟨Lc8, hQ8, l8, y8, z8⟩, st8⟩ := Jvm.LawKit.callS X7 hx (y := (⟨"com/example/trinode/trinode/tzaar/Ending", "without", "(Lcom/example/trinode/trinode/tzaar/PieceType;)Lcom/example/trinode/trinode/tzaar/Ending;"⟩ : MethodName)) hown (mvT hZ (hw _ (List.mem_of_getElem? (i := 7) rfl))) (mvT hZ (hw _ (List.mem_of_getElem? (i := 8) rfl))) (mvT hZ (hw _ (List.mem_of_getElem? (i := 5) rfl))) (mvT hZ (hw _ (List.mem_of_getElem? (i := 9) rfl))) (by decide) (backOf (W := 0) (rm1_TZARRA l Z a0 hw []  w_TOTT w_NO_TOTT w_ENDINGS w_IN_PROGRESS w_NO_TZAAR w_TZAAR w_NO_TZARRA w_TZARRA w_NO_CAPTURE kc_w_ENDINGS h0 n0 Z0 S_w_TOTT E_w_TOTT S_w_NO_TOTT E_w_NO_TOTT S_w_ENDINGS S_w_IN_PROGRESS E_w_IN_PROGRESS S_w_NO_TZAAR E_w_NO_TZAAR S_w_TZAAR E_w_TZAAR S_w_NO_TZARRA E_w_NO_TZARRA S_w_TZARRA E_w_TZARRA S_w_NO_CAPTURE E_w_NO_CAPTURE F_lacked_w_IN_PROGRESS F_lacked_w_NO_TZAAR F_ordinal_w_TZAAR F_ordinal_w_TOTT F_lacked_w_NO_TZARRA F_ordinal_w_TZARRA F_lacked_w_NO_TOTT F_lacked_w_NO_CAPTURE V_w_ENDINGS ne_w_TZAAR_w_TOTT ne_w_TZAAR_w_TZARRA ne_w_TOTT_w_TZARRA) hZ (hw _ (List.mem_of_getElem? (i := 9) rfl)) (hw _ (List.mem_of_getElem? (i := 5) rfl)) (by decide) (by decide)) (g := (mkF m 47 #[.val (.int p0), .val (.int (1 : Int32)), .val (.ref w_TZARRA), .val (.ref w_NO_TZARRA), .unset] [(.ref w_TZARRA)])) rfl (by rw [hml]; rfl) (argsL := [(.ref w_TZARRA)]) (rest := []) (lenOf own_pd26 rfl) rfl (by show 2 * 0 + _ ≤ _; exact Nat.le_of_eq rfl) (hb hby at_47) (fun _ _ => ⟨rfl, e7, (by decide : 0 + 0 ≤ _), (by decide : 0 + 0 ≤ _)⟩)
    dsimp only [Pt.U, Pt.locs, Pt.cells, Pt.slots] at X8 l8 y8 z8 st8 hQ8
    subst l8 y8 z8
    obtain ⟨rfl, N8q, eh8⟩ := hQ8
    have N8 := Fr.app N0 N8q
    refine Good.back st8 ?_
    show Good p e below _ (T8.setTop (mkF m 50 #[.val (.int p0), .val (.int (1 : Int32)), .val (.ref w_TZARRA), .val (.ref w_NO_TZARRA), .unset] [(.ref w_NO_TZARRA)]))
    refine Good.back (fun _ k => XS.astore X8.here hx rfl (hb hby at_50) rfl rfl (l' := #[.val (.int p0), .val (.int (1 : Int32)), .val (.ref w_TZARRA), .val (.ref w_NO_TZARRA), .val (.ref w_NO_TZARRA)]) rfl k) ?_
    show Good p e below _ (T8.setTop (mkF m 52 #[.val (.int p0), .val (.int (1 : Int32)), .val (.ref w_TZARRA), .val (.ref w_NO_TZARRA), .val (.ref w_NO_TZARRA)] []))
    refine Good.back (fun _ k => XS.aload X8.here hx rfl (hb hby at_52) rfl rfl k) ?_
    show Good p e below _ (T8.setTop (mkF m 54 #[.val (.int p0), .val (.int (1 : Int32)), .val (.ref w_TZARRA), .val (.ref w_NO_TZARRA), .val (.ref w_NO_TZARRA)] [(.ref w_NO_TZARRA)]))
    refine Good.back (fun _ k => XS.aloadN X8.here hx rfl (hb hby at_54) rfl rfl k) ?_
    show Good p e below _ (T8.setTop (mkF m 55 #[.val (.int p0), .val (.int (1 : Int32)), .val (.ref w_TZARRA), .val (.ref w_NO_TZARRA), .val (.ref w_NO_TZARRA)] [(.ref w_NO_TZARRA), (.ref w_NO_TZARRA)]))
    refine Good.back (fun _ k => Jvm.RoadKit.acmp (g := (mkF m 55 #[.val (.int p0), .val (.int (1 : Int32)), .val (.ref w_TZARRA), .val (.ref w_NO_TZARRA), .val (.ref w_NO_TZARRA)] [(.ref w_NO_TZARRA), (.ref w_NO_TZARRA)])) X8 hx rfl rfl rfl (pc0 := 55) (pc' := 58) (same := true) rfl (hb hby at_55) rfl (decide_eq_true rfl) (by decide) (by decide) k) ?_
    show Good p e below _ (T8.setTop (mkF m 58 #[.val (.int p0), .val (.int (1 : Int32)), .val (.ref w_TZARRA), .val (.ref w_NO_TZARRA), .val (.ref w_NO_TZARRA)] []))
    refine Good.back (fun _ k => XS.iconst X8.here hx rfl (hb hby at_58) k) ?_
    show Good p e below _ (T8.setTop (mkF m 59 #[.val (.int p0), .val (.int (1 : Int32)), .val (.ref w_TZARRA), .val (.ref w_NO_TZARRA), .val (.ref w_NO_TZARRA)] [(.int (1 : Int32))]))
    refine Good.back (fun _ k => XS.goto X8.here hx rfl (pc0 := 59) (pc' := 63) rfl (hb hby at_59) (by decide) (by decide) k) ?_
    show Good p e below _ (T8.setTop (mkF m 63 #[.val (.int p0), .val (.int (1 : Int32)), .val (.ref w_TZARRA), .val (.ref w_NO_TZARRA), .val (.ref w_NO_TZARRA)] [(.int (1 : Int32))]))
    obtain ⟨fs9, hr9, hrun9, hended9, hW9, hsame9⟩ := X8.leave (v := some (.int (1 : Int32))) (fun h => by rw [Bd.returns] at h; cases h)
    refine Good.done (retN X8 hx (t := .boolean) Bd.returns (by simp) (hb hby at_63) hr9) hrun9 hended9 ⟨_, _, rfl, ?_, ⟨_, rfl⟩, hW9, hsame9.mono (by decide) (by decide)⟩
    show Q0 Z p0 w_TOTT w_NO_TOTT w_ENDINGS w_IN_PROGRESS w_NO_TZAAR w_TZAAR w_NO_TZARRA w_TZARRA w_NO_CAPTURE kc_w_ENDINGS h0 n0 _ T8.heap _
    rw [eh8]
    exact ⟨rfl, N8⟩
  · have he1' : ((p0 &&& (2147483647 : Int32)) % (3 : Int32)) = (2 : Int32) := he1
    rw [he1']
    show Good p e below _ (s₁.setTop (mkF m 7 #[.val (.int p0), .val (.int (2 : Int32)), .unset, .unset, .unset] []))
    refine Good.back (fun _ k => XS.iloadN X0.here hx rfl (hb hby at_7) rfl k) ?_
    show Good p e below _ (s₁.setTop (mkF m 8 #[.val (.int p0), .val (.int (2 : Int32)), .unset, .unset, .unset] [(.int (2 : Int32))]))
    refine Good.back (fun _ k => XS.ifYes X0.here hx rfl (pc0 := 8) (pc' := 22) rfl (hb hby at_8) rfl ((if0 _ _).trans (feq (by decide : ¬ ((2 : Int32) = (0 : Int32)))).2) (by decide) (by decide) k) ?_
    show Good p e below _ (s₁.setTop (mkF m 22 #[.val (.int p0), .val (.int (2 : Int32)), .unset, .unset, .unset] []))
    refine Good.back (fun _ k => XS.iloadN X0.here hx rfl (hb hby at_22) rfl k) ?_
    show Good p e below _ (s₁.setTop (mkF m 23 #[.val (.int p0), .val (.int (2 : Int32)), .unset, .unset, .unset] [(.int (2 : Int32))]))
    refine Good.back (fun _ k => XS.iconst X0.here hx rfl (hb hby at_23) k) ?_
    show Good p e below _ (s₁.setTop (mkF m 24 #[.val (.int p0), .val (.int (2 : Int32)), .unset, .unset, .unset] [(.int (1 : Int32)), (.int (2 : Int32))]))
    refine Good.back (fun _ k => XS.icmpYes X0.here hx rfl (pc0 := 24) (pc' := 38) rfl (hb hby at_24) rfl (feq (by decide : ¬ ((2 : Int32) = (1 : Int32)))).2 (by decide) (by decide) k) ?_
    show Good p e below _ (s₁.setTop (mkF m 38 #[.val (.int p0), .val (.int (2 : Int32)), .unset, .unset, .unset] []))
    obtain ⟨T10, X10, e10, st10⟩ := getS2 X0 hx hZ hown (host := "") (Or.inl (hw _ (List.mem_of_getElem? (i := 20) rfl))) Via.refl e0 S_w_TZAAR (g := (mkF m 38 #[.val (.int p0), .val (.int (2 : Int32)), .unset, .unset, .unset] [])) rfl (hb hby at_38)
    refine Good.back st10 ?_
    show Good p e below _ (T10.setTop (mkF m 41 #[.val (.int p0), .val (.int (2 : Int32)), .unset, .unset, .unset] [(.ref w_TZAAR)]))
    refine Good.back (fun _ k => XS.astoreN X10.here hx rfl (hb hby at_41) rfl rfl (l' := #[.val (.int p0), .val (.int (2 : Int32)), .val (.ref w_TZAAR), .unset, .unset]) rfl k) ?_
    show Good p e below _ (T10.setTop (mkF m 42 #[.val (.int p0), .val (.int (2 : Int32)), .val (.ref w_TZAAR), .unset, .unset] []))
    obtain ⟨T11, X11, e11, st11⟩ := getS2 X10 hx hZ hown (host := "") (Or.inl (hw _ (List.mem_of_getElem? (i := 21) rfl))) Via.refl e10 S_w_NO_TZAAR (g := (mkF m 42 #[.val (.int p0), .val (.int (2 : Int32)), .val (.ref w_TZAAR), .unset, .unset] [])) rfl (hb hby at_42)
    refine Good.back st11 ?_
    show Good p e below _ (T11.setTop (mkF m 45 #[.val (.int p0), .val (.int (2 : Int32)), .val (.ref w_TZAAR), .unset, .unset] [(.ref w_NO_TZAAR)]))
    refine Good.back (fun _ k => XS.astoreN X11.here hx rfl (hb hby at_45) rfl rfl (l' := #[.val (.int p0), .val (.int (2 : Int32)), .val (.ref w_TZAAR), .val (.ref w_NO_TZAAR), .unset]) rfl k) ?_
    show Good p e below _ (T11.setTop (mkF m 46 #[.val (.int p0), .val (.int (2 : Int32)), .val (.ref w_TZAAR), .val (.ref w_NO_TZAAR), .unset] []))
    refine Good.back (fun _ k => XS.aloadN X11.here hx rfl (hb hby at_46) rfl rfl k) ?_
    show Good p e below _ (T11.setTop (mkF m 47 #[.val (.int p0), .val (.int (2 : Int32)), .val (.ref w_TZAAR), .val (.ref w_NO_TZAAR), .unset] [(.ref w_TZAAR)]))
    obtain ⟨_, _, ⟨T12, L12, k12, n12⟩, -, X12, ⟨Lc12, hQ12, l12, y12, z12⟩, st12⟩ := Jvm.LawKit.callS X11 hx (y := (⟨"com/example/trinode/trinode/tzaar/Ending", "without", "(Lcom/example/trinode/trinode/tzaar/PieceType;)Lcom/example/trinode/trinode/tzaar/Ending;"⟩ : MethodName)) hown (mvT hZ (hw _ (List.mem_of_getElem? (i := 7) rfl))) (mvT hZ (hw _ (List.mem_of_getElem? (i := 8) rfl))) (mvT hZ (hw _ (List.mem_of_getElem? (i := 5) rfl))) (mvT hZ (hw _ (List.mem_of_getElem? (i := 9) rfl))) (by decide) (backOf (W := 0) (rm1_TZAAR l Z a0 hw []  w_TOTT w_NO_TOTT w_ENDINGS w_IN_PROGRESS w_NO_TZAAR w_TZAAR w_NO_TZARRA w_TZARRA w_NO_CAPTURE kc_w_ENDINGS h0 n0 Z0 S_w_TOTT E_w_TOTT S_w_NO_TOTT E_w_NO_TOTT S_w_ENDINGS S_w_IN_PROGRESS E_w_IN_PROGRESS S_w_NO_TZAAR E_w_NO_TZAAR S_w_TZAAR E_w_TZAAR S_w_NO_TZARRA E_w_NO_TZARRA S_w_TZARRA E_w_TZARRA S_w_NO_CAPTURE E_w_NO_CAPTURE F_lacked_w_IN_PROGRESS F_lacked_w_NO_TZAAR F_ordinal_w_TZAAR F_ordinal_w_TOTT F_lacked_w_NO_TZARRA F_ordinal_w_TZARRA F_lacked_w_NO_TOTT F_lacked_w_NO_CAPTURE V_w_ENDINGS ne_w_TZAAR_w_TOTT ne_w_TZAAR_w_TZARRA ne_w_TOTT_w_TZARRA) hZ (hw _ (List.mem_of_getElem? (i := 9) rfl)) (hw _ (List.mem_of_getElem? (i := 5) rfl)) (by decide) (by decide)) (g := (mkF m 47 #[.val (.int p0), .val (.int (2 : Int32)), .val (.ref w_TZAAR), .val (.ref w_NO_TZAAR), .unset] [(.ref w_TZAAR)])) rfl (by rw [hml]; rfl) (argsL := [(.ref w_TZAAR)]) (rest := []) (lenOf own_pd26 rfl) rfl (by show 2 * 0 + _ ≤ _; exact Nat.le_of_eq rfl) (hb hby at_47) (fun _ _ => ⟨rfl, e11, (by decide : 0 + 0 ≤ _), (by decide : 0 + 0 ≤ _)⟩)
    dsimp only [Pt.U, Pt.locs, Pt.cells, Pt.slots] at X12 l12 y12 z12 st12 hQ12
    subst l12 y12 z12
    obtain ⟨rfl, N12q, eh12⟩ := hQ12
    have N12 := Fr.app N0 N12q
    refine Good.back st12 ?_
    show Good p e below _ (T12.setTop (mkF m 50 #[.val (.int p0), .val (.int (2 : Int32)), .val (.ref w_TZAAR), .val (.ref w_NO_TZAAR), .unset] [(.ref w_NO_TZAAR)]))
    refine Good.back (fun _ k => XS.astore X12.here hx rfl (hb hby at_50) rfl rfl (l' := #[.val (.int p0), .val (.int (2 : Int32)), .val (.ref w_TZAAR), .val (.ref w_NO_TZAAR), .val (.ref w_NO_TZAAR)]) rfl k) ?_
    show Good p e below _ (T12.setTop (mkF m 52 #[.val (.int p0), .val (.int (2 : Int32)), .val (.ref w_TZAAR), .val (.ref w_NO_TZAAR), .val (.ref w_NO_TZAAR)] []))
    refine Good.back (fun _ k => XS.aload X12.here hx rfl (hb hby at_52) rfl rfl k) ?_
    show Good p e below _ (T12.setTop (mkF m 54 #[.val (.int p0), .val (.int (2 : Int32)), .val (.ref w_TZAAR), .val (.ref w_NO_TZAAR), .val (.ref w_NO_TZAAR)] [(.ref w_NO_TZAAR)]))
    refine Good.back (fun _ k => XS.aloadN X12.here hx rfl (hb hby at_54) rfl rfl k) ?_
    show Good p e below _ (T12.setTop (mkF m 55 #[.val (.int p0), .val (.int (2 : Int32)), .val (.ref w_TZAAR), .val (.ref w_NO_TZAAR), .val (.ref w_NO_TZAAR)] [(.ref w_NO_TZAAR), (.ref w_NO_TZAAR)]))
    refine Good.back (fun _ k => Jvm.RoadKit.acmp (g := (mkF m 55 #[.val (.int p0), .val (.int (2 : Int32)), .val (.ref w_TZAAR), .val (.ref w_NO_TZAAR), .val (.ref w_NO_TZAAR)] [(.ref w_NO_TZAAR), (.ref w_NO_TZAAR)])) X12 hx rfl rfl rfl (pc0 := 55) (pc' := 58) (same := true) rfl (hb hby at_55) rfl (decide_eq_true rfl) (by decide) (by decide) k) ?_
    show Good p e below _ (T12.setTop (mkF m 58 #[.val (.int p0), .val (.int (2 : Int32)), .val (.ref w_TZAAR), .val (.ref w_NO_TZAAR), .val (.ref w_NO_TZAAR)] []))
    refine Good.back (fun _ k => XS.iconst X12.here hx rfl (hb hby at_58) k) ?_
    show Good p e below _ (T12.setTop (mkF m 59 #[.val (.int p0), .val (.int (2 : Int32)), .val (.ref w_TZAAR), .val (.ref w_NO_TZAAR), .val (.ref w_NO_TZAAR)] [(.int (1 : Int32))]))
    refine Good.back (fun _ k => XS.goto X12.here hx rfl (pc0 := 59) (pc' := 63) rfl (hb hby at_59) (by decide) (by decide) k) ?_
    show Good p e below _ (T12.setTop (mkF m 63 #[.val (.int p0), .val (.int (2 : Int32)), .val (.ref w_TZAAR), .val (.ref w_NO_TZAAR), .val (.ref w_NO_TZAAR)] [(.int (1 : Int32))]))
    obtain ⟨fs13, hr13, hrun13, hended13, hW13, hsame13⟩ := X12.leave (v := some (.int (1 : Int32))) (fun h => by rw [Bd.returns] at h; cases h)
    refine Good.done (retN X12 hx (t := .boolean) Bd.returns (by simp) (hb hby at_63) hr13) hrun13 hended13 ⟨_, _, rfl, ?_, ⟨_, rfl⟩, hW13, hsame13.mono (by decide) (by decide)⟩
    show Q0 Z p0 w_TOTT w_NO_TOTT w_ENDINGS w_IN_PROGRESS w_NO_TZAAR w_TZAAR w_NO_TZARRA w_TZARRA w_NO_CAPTURE kc_w_ENDINGS h0 n0 _ T12.heap _
    rw [eh12]
    exact ⟨rfl, N12⟩
set_option maxRecDepth 65536 in
set_option maxHeartbeats 40000000 in
theorem comes_1 {Post : Tables → Env → Array Value → State → Outcome → State → Prop} (hpost : ∀ tb e args s v u, (limb_1_1.after args s (.returned v) u = true ∧ limb_1_2.after args s (.returned v) u = true ∧ True) → FrameEnd s (.returned v) u (Jvm.fieldLocs frame_1_writes args s ++ Jvm.arrayLocs frame_1_arrays args s ++ Jvm.staticLocs frame_1_statics s) 0 0 → Post tb e args s (.returned v) u) :
    ArmFor flags0 classFile x code maxLocals ret World_1 tables_1 room_1 Calls_1 rest_1 Pre_1 Post := by
  intro l hfl _ _ p e ha hc hk s m args below hf hA hF happ hP
  obtain ⟨hcalls, hrest, hpre⟩ := hP
  obtain ⟨-, -, -, hnamed, -, -, -, hat⟩ := (Spec.applies_iff hf).mp happ
  obtain ⟨hg, hn⟩ := and_e (Cond.before_iff.mp (show (Jvm.Cond.and given_1 narrow_1).before args s = true from hpre))
  obtain ⟨g1, g2⟩ := and_e hg
  obtain ⟨w0, rfl⟩ : ∃ w0 : Value, args = #[w0] := by
    have hs : args.size = 1 := by simpa [Cond.value, given_1] using g1
    obtain ⟨L⟩ := args
    match L, hs with
    | [w0], _ => exact ⟨w0, rfl⟩
  have hw := fun d (hd : d ∈ tables_1) => atoms_spec (ws := Jvm.Cond.code x code maxLocals ret :: tables_1) hat d (List.mem_cons_of_mem _ hd)
  have hfit : Fit s := fun {y c} hc i hi => by
    obtain ⟨ha, rfl⟩ := Array.getElem?_eq_some_iff.mp hc
    have q := List.all_eq_true.mp ((Array.all_eq_true_iff_forall_mem.mp hF) _ (Array.getElem_mem ha)) i (List.mem_range.mpr hi)
    simpa [Array.getElem?_eq_getElem hi] using q
  obtain ⟨i0, ei0⟩ := is_v g2
  obtain rfl : w0 = (.int i0) := Option.some.inj ei0
  obtain ⟨c1, c2⟩ := and_e hn
  obtain ⟨c3, c4⟩ := and_e c2
  obtain ⟨c5, c6⟩ := and_e c4
  obtain ⟨c7, c8⟩ := and_e c6
  obtain ⟨c9, c10⟩ := and_e c8
  obtain ⟨c11, c12⟩ := and_e c10
  obtain ⟨c13, c14⟩ := and_e c12
  obtain ⟨c15, c16⟩ := and_e c14
  obtain ⟨c17, c18⟩ := and_e c16
  obtain ⟨c19, c20⟩ := and_e c18
  obtain ⟨c21, c22⟩ := and_e c20
  obtain ⟨c23, c24⟩ := and_e c22
  obtain ⟨c25, c26⟩ := and_e c24
  obtain ⟨c27, c28⟩ := and_e c26
  obtain ⟨c29, c30⟩ := and_e c28
  obtain ⟨c31, c32⟩ := and_e c30
  obtain ⟨c33, c34⟩ := and_e c32
  obtain ⟨c35, c36⟩ := and_e c34
  obtain ⟨c37, c38⟩ := and_e c36
  obtain ⟨c39, c40⟩ := and_e c38
  obtain ⟨c41, c42⟩ := and_e c40
  obtain ⟨c43, c44⟩ := and_e c42
  obtain ⟨w_TOTT, ev_w_TOTT⟩ := exa_v c1
  have S_w_TOTT : Sta s s.heap "com/example/trinode/trinode/tzaar/PieceType" "TOTT" "Lcom/example/trinode/trinode/tzaar/PieceType;" (.ref w_TOTT) := Sta.start ev_w_TOTT (Or.inr ⟨(hw _ (List.mem_of_getElem? (i := 2) rfl)), (hw _ (List.mem_of_getElem? (i := 3) rfl))⟩)
  have E_w_TOTT : Exa s s.heap w_TOTT "com/example/trinode/trinode/tzaar/PieceType" := Exa.start ev_w_TOTT c1
  obtain ⟨w_NO_TOTT, ev_w_NO_TOTT⟩ := exa_v c3
  have S_w_NO_TOTT : Sta s s.heap "com/example/trinode/trinode/tzaar/Ending" "NO_TOTT" "Lcom/example/trinode/trinode/tzaar/Ending;" (.ref w_NO_TOTT) := Sta.start ev_w_NO_TOTT (Or.inr ⟨(hw _ (List.mem_of_getElem? (i := 5) rfl)), (hw _ (List.mem_of_getElem? (i := 6) rfl))⟩)
  have E_w_NO_TOTT : Exa s s.heap w_NO_TOTT "com/example/trinode/trinode/tzaar/Ending" := Exa.start ev_w_NO_TOTT c3
  obtain ⟨w_ENDINGS, ev_w_ENDINGS⟩ := arr_v c5
  have S_w_ENDINGS : Sta s s.heap "com/example/trinode/trinode/tzaar/Ending" "ENDINGS" "[Lcom/example/trinode/trinode/tzaar/Ending;" (.ref w_ENDINGS) := Sta.start ev_w_ENDINGS (Or.inr ⟨(hw _ (List.mem_of_getElem? (i := 5) rfl)), (hw _ (List.mem_of_getElem? (i := 11) rfl))⟩)
  obtain ⟨cl_w_ENDINGS, A_w_ENDINGS⟩ := Arr.start ev_w_ENDINGS c5
  obtain ⟨lt_w_ENDINGS, len_w_ENDINGS⟩ := own_len A_w_ENDINGS ev_w_ENDINGS (own_eqV c7 rfl)
  obtain ⟨w_IN_PROGRESS, ev_w_IN_PROGRESS⟩ := exa_v c9
  have S_w_IN_PROGRESS : Sta s s.heap "com/example/trinode/trinode/tzaar/Ending" "IN_PROGRESS" "Lcom/example/trinode/trinode/tzaar/Ending;" (.ref w_IN_PROGRESS) := Sta.start ev_w_IN_PROGRESS (Or.inr ⟨(hw _ (List.mem_of_getElem? (i := 5) rfl)), (hw _ (List.mem_of_getElem? (i := 12) rfl))⟩)
  have E_w_IN_PROGRESS : Exa s s.heap w_IN_PROGRESS "com/example/trinode/trinode/tzaar/Ending" := Exa.start ev_w_IN_PROGRESS c9
  obtain ⟨w_NO_TZAAR, ev_w_NO_TZAAR⟩ := exa_v c15
  have S_w_NO_TZAAR : Sta s s.heap "com/example/trinode/trinode/tzaar/Ending" "NO_TZAAR" "Lcom/example/trinode/trinode/tzaar/Ending;" (.ref w_NO_TZAAR) := Sta.start ev_w_NO_TZAAR (Or.inr ⟨(hw _ (List.mem_of_getElem? (i := 5) rfl)), (hw _ (List.mem_of_getElem? (i := 15) rfl))⟩)
  have E_w_NO_TZAAR : Exa s s.heap w_NO_TZAAR "com/example/trinode/trinode/tzaar/Ending" := Exa.start ev_w_NO_TZAAR c15
  obtain ⟨w_TZAAR, ev_w_TZAAR⟩ := exa_v c19
  have S_w_TZAAR : Sta s s.heap "com/example/trinode/trinode/tzaar/PieceType" "TZAAR" "Lcom/example/trinode/trinode/tzaar/PieceType;" (.ref w_TZAAR) := Sta.start ev_w_TZAAR (Or.inr ⟨(hw _ (List.mem_of_getElem? (i := 2) rfl)), (hw _ (List.mem_of_getElem? (i := 16) rfl))⟩)
  have E_w_TZAAR : Exa s s.heap w_TZAAR "com/example/trinode/trinode/tzaar/PieceType" := Exa.start ev_w_TZAAR c19
  obtain ⟨w_NO_TZARRA, ev_w_NO_TZARRA⟩ := exa_v c27
  have S_w_NO_TZARRA : Sta s s.heap "com/example/trinode/trinode/tzaar/Ending" "NO_TZARRA" "Lcom/example/trinode/trinode/tzaar/Ending;" (.ref w_NO_TZARRA) := Sta.start ev_w_NO_TZARRA (Or.inr ⟨(hw _ (List.mem_of_getElem? (i := 5) rfl)), (hw _ (List.mem_of_getElem? (i := 17) rfl))⟩)
  have E_w_NO_TZARRA : Exa s s.heap w_NO_TZARRA "com/example/trinode/trinode/tzaar/Ending" := Exa.start ev_w_NO_TZARRA c27
  obtain ⟨w_TZARRA, ev_w_TZARRA⟩ := exa_v c31
  have S_w_TZARRA : Sta s s.heap "com/example/trinode/trinode/tzaar/PieceType" "TZARRA" "Lcom/example/trinode/trinode/tzaar/PieceType;" (.ref w_TZARRA) := Sta.start ev_w_TZARRA (Or.inr ⟨(hw _ (List.mem_of_getElem? (i := 2) rfl)), (hw _ (List.mem_of_getElem? (i := 18) rfl))⟩)
  have E_w_TZARRA : Exa s s.heap w_TZARRA "com/example/trinode/trinode/tzaar/PieceType" := Exa.start ev_w_TZARRA c31
  obtain ⟨w_NO_CAPTURE, ev_w_NO_CAPTURE⟩ := exa_v c41
  have S_w_NO_CAPTURE : Sta s s.heap "com/example/trinode/trinode/tzaar/Ending" "NO_CAPTURE" "Lcom/example/trinode/trinode/tzaar/Ending;" (.ref w_NO_CAPTURE) := Sta.start ev_w_NO_CAPTURE (Or.inr ⟨(hw _ (List.mem_of_getElem? (i := 5) rfl)), (hw _ (List.mem_of_getElem? (i := 19) rfl))⟩)
  have E_w_NO_CAPTURE : Exa s s.heap w_NO_CAPTURE "com/example/trinode/trinode/tzaar/Ending" := Exa.start ev_w_NO_CAPTURE c41
  have el_w_ENDINGS_0 := (elem_in (own_eqV c11 ev_w_IN_PROGRESS) ev_w_ENDINGS rfl A_w_ENDINGS.1).2
  have F_lacked_w_IN_PROGRESS : Fld s s.heap w_IN_PROGRESS "com/example/trinode/trinode/tzaar/Ending" "lacked" "Lcom/example/trinode/trinode/tzaar/PieceType;" .null := Fld.start ((fld_at ev_w_IN_PROGRESS).symm.trans (own_eqV c13 rfl))
  have el_w_ENDINGS_1 := (elem_in (own_eqV c17 ev_w_NO_TZAAR) ev_w_ENDINGS rfl A_w_ENDINGS.1).2
  have F_lacked_w_NO_TZAAR : Fld s s.heap w_NO_TZAAR "com/example/trinode/trinode/tzaar/Ending" "lacked" "Lcom/example/trinode/trinode/tzaar/PieceType;" (.ref w_TZAAR) := Fld.start ((fld_at ev_w_NO_TZAAR).symm.trans (own_eqV c21 ev_w_TZAAR))
  have F_ordinal_w_TZAAR : Fld s s.heap w_TZAAR "java/lang/Enum" "ordinal" "I" (.int (2 : Int32)) := Fld.start ((fld_at ev_w_TZAAR).symm.trans (own_eqV c23 rfl))
  have F_ordinal_w_TOTT : Fld s s.heap w_TOTT "java/lang/Enum" "ordinal" "I" (.int (0 : Int32)) := Fld.start ((fld_at ev_w_TOTT).symm.trans (own_eqV c25 rfl))
  have el_w_ENDINGS_2 := (elem_in (own_eqV c29 ev_w_NO_TZARRA) ev_w_ENDINGS rfl A_w_ENDINGS.1).2
  have F_lacked_w_NO_TZARRA : Fld s s.heap w_NO_TZARRA "com/example/trinode/trinode/tzaar/Ending" "lacked" "Lcom/example/trinode/trinode/tzaar/PieceType;" (.ref w_TZARRA) := Fld.start ((fld_at ev_w_NO_TZARRA).symm.trans (own_eqV c33 ev_w_TZARRA))
  have F_ordinal_w_TZARRA : Fld s s.heap w_TZARRA "java/lang/Enum" "ordinal" "I" (.int (1 : Int32)) := Fld.start ((fld_at ev_w_TZARRA).symm.trans (own_eqV c35 rfl))
  have el_w_ENDINGS_3 := (elem_in (own_eqV c37 ev_w_NO_TOTT) ev_w_ENDINGS rfl A_w_ENDINGS.1).2
  have F_lacked_w_NO_TOTT : Fld s s.heap w_NO_TOTT "com/example/trinode/trinode/tzaar/Ending" "lacked" "Lcom/example/trinode/trinode/tzaar/PieceType;" (.ref w_TOTT) := Fld.start ((fld_at ev_w_NO_TOTT).symm.trans (own_eqV c39 ev_w_TOTT))
  have el_w_ENDINGS_4 := (elem_in (own_eqV c43 ev_w_NO_CAPTURE) ev_w_ENDINGS rfl A_w_ENDINGS.1).2
  have F_lacked_w_NO_CAPTURE : Fld s s.heap w_NO_CAPTURE "com/example/trinode/trinode/tzaar/Ending" "lacked" "Lcom/example/trinode/trinode/tzaar/PieceType;" .null := Fld.start ((fld_at ev_w_NO_CAPTURE).symm.trans (own_eqV c44 rfl))
  obtain ⟨kc_w_ENDINGS, hkc_w_ENDINGS⟩ : ∃ z, z = cl_w_ENDINGS.cls := ⟨_, rfl⟩
  have V_w_ENDINGS : Arv s s.heap w_ENDINGS kc_w_ENDINGS (.object "com/example/trinode/trinode/tzaar/Ending") (5 : Int32) [(.ref w_IN_PROGRESS), (.ref w_NO_TZAAR), (.ref w_NO_TZARRA), (.ref w_NO_TOTT), (.ref w_NO_CAPTURE)] .null := hkc_w_ENDINGS ▸ Arv.start hfit A_w_ENDINGS lt_w_ENDINGS len_w_ENDINGS (by decide) rfl ⟨el_w_ENDINGS_0, el_w_ENDINGS_1, el_w_ENDINGS_2, el_w_ENDINGS_3, el_w_ENDINGS_4, trivial⟩
  obtain ⟨n, o, h1, h2, h3, _, L, rfl, ⟨rfl, N⟩, hq⟩ := rm0 l s _ hw tables_1 i0 w_TOTT w_NO_TOTT w_ENDINGS w_IN_PROGRESS w_NO_TZAAR w_TZAAR w_NO_TZARRA w_TZARRA w_NO_CAPTURE kc_w_ENDINGS s.heap s.heap.size (Nat.le_refl _) S_w_TOTT E_w_TOTT S_w_NO_TOTT E_w_NO_TOTT S_w_ENDINGS S_w_IN_PROGRESS E_w_IN_PROGRESS S_w_NO_TZAAR E_w_NO_TZAAR S_w_TZAAR E_w_TZAAR S_w_NO_TZARRA E_w_NO_TZARRA S_w_TZARRA E_w_TZARRA S_w_NO_CAPTURE E_w_NO_CAPTURE F_lacked_w_IN_PROGRESS F_lacked_w_NO_TZAAR F_ordinal_w_TZAAR F_ordinal_w_TOTT F_lacked_w_NO_TZARRA F_ordinal_w_TZARRA F_lacked_w_NO_TOTT F_lacked_w_NO_CAPTURE V_w_ENDINGS (F_ordinal_w_TZAAR.ne F_ordinal_w_TOTT (by simp)) (F_ordinal_w_TZAAR.ne F_ordinal_w_TZARRA (by simp)) (F_ordinal_w_TOTT.ne F_ordinal_w_TZARRA (by simp)) p e ha hc hk s m _ below hf ((Spec.applies_iff_loose hf).mp happ).1 ⟨rfl, State.Warmed39.refl s, rfl⟩ trivial
  refine ⟨n, _, h1, h2, h3, hpost _ _ _ _ _ _ ⟨Cond.after_iff.mpr rfl, Cond.after_iff.mpr (eq_i res_at (Term.int_eval (1)) rfl), trivial⟩ ⟨hq.1, hq.2.1, (hq.2.2.sift fun y hy => Or.inr (N y hy)).mono (by decide) (by decide)⟩⟩
theorem main_1_1 : Claimed_1_1 := comes_1 fun _ _ _ _ _ _ h hF => ⟨h.1, hF⟩
theorem main_1_2 : Claimed_1_2 := comes_1 fun _ _ _ _ _ _ h hF => ⟨h.2.1, hF⟩
end Jvm.Pilot.@@N@@
namespace Jvm.Pilot.@@N@@
open Jvm Jvm.ClassFile Sem Op Lib Jvm.Free Jvm.Stand Jvm.Pilot.@@N@@.Jvm.D
/-! MADE BY PROGRAM (witnessworld.py) out of the Statement's table words and the real class files: 14 classes; the members and pool entries that the words name. The judged class is class 1, her method 1. -/
namespace start1
open Jvm.ClassFile
def u (s : String) : CpInfo := .utf8 (stringToUtf16 s)
/-- a pool by its gaps: so many unusable entries, then the entry; so many at the end -/
def gap : Nat → List CpInfo → List CpInfo
  | 0, r => r
  | n + 1, r => .unusable :: gap n r
def poolList (es : List (Nat × CpInfo)) (last : Nat) : List CpInfo := es.foldr (fun e r => gap e.1 (e.2 :: r)) (gap last [])
def pool (es : List (Nat × CpInfo)) (last : Nat) : Array CpInfo := ⟨poolList es last⟩
def fileOf (pool : Array CpInfo) (this : Nat) (attrs : Array Attribute := #[]) (ms : Array MethodInfo := #[]) (fl : Nat := 33) (sup : Nat := 0) (ifs : Array Nat := #[]) (fds : Array FieldInfo := #[]) : ClassFile where
  minorVersion := 0
  majorVersion := 65
  constantPool := pool
  accessFlags := fl
  thisClass := this
  superClass := sup
  interfaces := ifs
  fields := fds
  methods := ms
  attributes := attrs
def plain (name : String) (sup : Option ClassId) : Class where
  name := name
  kind := .ordinary
  loader := none
  accessFlags := 33
  super := sup
  interfaces := #[]
  cf := none
  fields := #[]
  methods := #[]
  instanceTypes := #[]
  staticTypes := #[]
  resolved := #[]
  callSites := []
  init := .initialized
  statics := none
  mirror := none

def pool0 : Array CpInfo := pool [(5, u "<init>"), (0, u "()V"), (1, .class_ 10), (1, u "java/lang/Object")] 113

def k0m0 : Method := { name := "<init>", desc := "()V", sig := { parameters := [], returnType := none }, accessFlags := 1, code := none }
/-- java/lang/Object -/
def k0 : Class := { plain "java/lang/Object" none with
  accessFlags := 33
  interfaces := #[]
  cf := some (fileOf pool0 8 #[] #[{ accessFlags := 1, nameIndex := 5, descriptorIndex := 6, attributes := #[] }] 33 0 #[] #[])
  fields := #[]
  methods := #[k0m0]
  instanceTypes := #[]
  staticTypes := #[]
  resolved := Array.replicate 124 none
  statics := none }

def pool1 : Array CpInfo := pool [(2, .class_ 4), (1, u "java/lang/Object"), (0, u "<init>"), (0, u "()V"), (0, .integer 2147483647), (0, .fieldref 9 10), (0, .class_ 11), (0, .nameAndType 12 13), (0, u "com/example/trinode/trinode/tzaar/PieceType"), (0, u "TOTT"), (0, u "Lcom/example/trinode/trinode/tzaar/PieceType;"), (0, .fieldref 15 16), (0, .class_ 17), (0, .nameAndType 18 19), (0, u "com/example/trinode/trinode/tzaar/Ending"), (0, u "NO_TOTT"), (0, u "Lcom/example/trinode/trinode/tzaar/Ending;"), (0, .fieldref 9 21), (0, .nameAndType 22 13), (0, u "TZARRA"), (0, .fieldref 15 24), (0, .nameAndType 25 19), (0, u "NO_TZARRA"), (0, .fieldref 9 27), (0, .nameAndType 28 13), (0, u "TZAAR"), (0, .fieldref 15 30), (0, .nameAndType 31 19), (0, u "NO_TZAAR"), (0, .methodref 15 33), (0, .nameAndType 34 35), (0, u "without"), (0, u "(Lcom/example/trinode/trinode/tzaar/PieceType;)Lcom/example/trinode/trinode/tzaar/Ending;"), (0, .class_ 37), (0, u "com/example/trinode/trinode/tzaar/EndingWithoutPinLaw"), (2, u "law"), (0, u "(I)Z")] 3

def k1m0 : Method := { name := "<init>", desc := "()V", sig := { parameters := [], returnType := none }, accessFlags := 1, code := none }
def k1c1 : Code := { maxStack := 2, maxLocals := 5, code := code, exceptionTable := #[], attributes := #[] }
def k1m1 : Method := { name := "law", desc := "(I)Z", sig := { parameters := [.int], returnType := some .boolean }, accessFlags := 9, code := some k1c1 }
/-- com/example/trinode/trinode/tzaar/EndingWithoutPinLaw -/
def k1 : Class := { plain "com/example/trinode/trinode/tzaar/EndingWithoutPinLaw" (some 0) with
  accessFlags := 49
  interfaces := #[]
  cf := some (fileOf pool1 36 #[] #[{ accessFlags := 1, nameIndex := 5, descriptorIndex := 6, attributes := #[] }, { accessFlags := 9, nameIndex := 40, descriptorIndex := 41, attributes := #[] }] 49 2 #[] #[])
  fields := #[]
  methods := #[k1m0, k1m1]
  instanceTypes := #[]
  staticTypes := #[]
  resolved := Array.replicate 45 none
  statics := none }

def pool2 : Array CpInfo := pool [(1, .class_ 2), (0, u "java/lang/constant/Constable"), (0, .class_ 4), (0, u "java/lang/Object")] 6

/-- java/lang/constant/Constable -/
def k2 : Class := { plain "java/lang/constant/Constable" (some 0) with
  accessFlags := 1537
  interfaces := #[]
  cf := some (fileOf pool2 1 #[] #[] 1537 3 #[] #[])
  fields := #[]
  methods := #[]
  instanceTypes := #[]
  staticTypes := #[]
  resolved := Array.replicate 11 none
  statics := none }

def pool3 : Array CpInfo := pool [(1, .class_ 2), (0, u "java/lang/Comparable"), (0, .class_ 4), (0, u "java/lang/Object")] 7

/-- java/lang/Comparable -/
def k3 : Class := { plain "java/lang/Comparable" (some 0) with
  accessFlags := 1537
  interfaces := #[]
  cf := some (fileOf pool3 1 #[] #[] 1537 3 #[] #[])
  fields := #[]
  methods := #[]
  instanceTypes := #[]
  staticTypes := #[]
  resolved := Array.replicate 12 none
  statics := none }

def pool4 : Array CpInfo := pool [(1, .class_ 2), (0, u "java/io/Serializable"), (0, .class_ 4), (0, u "java/lang/Object")] 2

/-- java/io/Serializable -/
def k4 : Class := { plain "java/io/Serializable" (some 0) with
  accessFlags := 1537
  interfaces := #[]
  cf := some (fileOf pool4 1 #[] #[] 1537 3 #[] #[])
  fields := #[]
  methods := #[]
  instanceTypes := #[]
  staticTypes := #[]
  resolved := Array.replicate 7 none
  statics := none }

def pool5 : Array CpInfo := pool [(2, .class_ 4), (1, u "java/lang/Enum"), (0, u "name"), (0, u "Ljava/lang/String;"), (2, u "ordinal"), (0, u "I"), (1, .class_ 14), (1, u "java/lang/Object"), (4, u "hash"), (86, .class_ 108), (1, u "java/lang/Enum$EnumDesc"), (2, .class_ 112), (0, u "java/lang/constant/Constable"), (0, .class_ 114), (0, u "java/lang/Comparable"), (0, .class_ 116), (0, u "java/io/Serializable")] 87

/-- java/lang/Enum -/
def k5 : Class := { plain "java/lang/Enum" (some 0) with
  accessFlags := 1057
  interfaces := #[2, 3, 4]
  cf := some (fileOf pool5 2 #[.nestMembers #[106]] #[] 1057 12 #[111, 113, 115] #[{ accessFlags := 18, nameIndex := 5, descriptorIndex := 6, attributes := #[] }, { accessFlags := 18, nameIndex := 9, descriptorIndex := 10, attributes := #[] }, { accessFlags := 2, nameIndex := 19, descriptorIndex := 10, attributes := #[] }])
  fields := #[{ name := "name", type := (.object "java/lang/String"), accessFlags := 18, slot := 0, constantValue := 0 }, { name := "ordinal", type := .int, accessFlags := 18, slot := 1, constantValue := 0 }, { name := "hash", type := .int, accessFlags := 2, slot := 2, constantValue := 0 }]
  methods := #[]
  instanceTypes := #[(.object "java/lang/String"), .int, .int]
  staticTypes := #[]
  resolved := Array.replicate 204 none
  statics := none }

def pool6 : Array CpInfo := pool [(1, .class_ 2), (0, u "com/example/trinode/trinode/tzaar/PieceType"), (2, u "TOTT"), (0, u "Lcom/example/trinode/trinode/tzaar/PieceType;"), (2, u "TZARRA"), (2, u "TZAAR"), (2, u "$VALUES"), (0, u "[Lcom/example/trinode/trinode/tzaar/PieceType;"), (6, .class_ 25), (1, u "java/lang/Enum"), (8, u "letter"), (0, u "C"), (2, u "title"), (0, u "Ljava/lang/String;"), (2, u "perSide"), (0, u "I"), (2, u "TYPES")] 57

/-- com/example/trinode/trinode/tzaar/PieceType -/
def k6 : Class := { plain "com/example/trinode/trinode/tzaar/PieceType" (some 5) with
  accessFlags := 16433
  interfaces := #[]
  cf := some (fileOf pool6 1 #[] #[] 16433 23 #[] #[{ accessFlags := 16409, nameIndex := 5, descriptorIndex := 6, attributes := #[] }, { accessFlags := 16409, nameIndex := 9, descriptorIndex := 6, attributes := #[] }, { accessFlags := 16409, nameIndex := 12, descriptorIndex := 6, attributes := #[] }, { accessFlags := 26, nameIndex := 46, descriptorIndex := 16, attributes := #[] }, { accessFlags := 18, nameIndex := 34, descriptorIndex := 35, attributes := #[] }, { accessFlags := 18, nameIndex := 38, descriptorIndex := 39, attributes := #[] }, { accessFlags := 18, nameIndex := 42, descriptorIndex := 43, attributes := #[] }, { accessFlags := 4122, nameIndex := 15, descriptorIndex := 16, attributes := #[] }])
  fields := #[{ name := "TOTT", type := (.object "com/example/trinode/trinode/tzaar/PieceType"), accessFlags := 16409, slot := 0, constantValue := 0 }, { name := "TZARRA", type := (.object "com/example/trinode/trinode/tzaar/PieceType"), accessFlags := 16409, slot := 1, constantValue := 0 }, { name := "TZAAR", type := (.object "com/example/trinode/trinode/tzaar/PieceType"), accessFlags := 16409, slot := 2, constantValue := 0 }, { name := "TYPES", type := (.array (.object "com/example/trinode/trinode/tzaar/PieceType")), accessFlags := 26, slot := 3, constantValue := 0 }, { name := "letter", type := .char, accessFlags := 18, slot := 3, constantValue := 0 }, { name := "title", type := (.object "java/lang/String"), accessFlags := 18, slot := 4, constantValue := 0 }, { name := "perSide", type := .int, accessFlags := 18, slot := 5, constantValue := 0 }, { name := "$VALUES", type := (.array (.object "com/example/trinode/trinode/tzaar/PieceType")), accessFlags := 4122, slot := 4, constantValue := 0 }]
  methods := #[]
  instanceTypes := #[(.object "java/lang/String"), .int, .int, .char, (.object "java/lang/String"), .int]
  staticTypes := #[(.object "com/example/trinode/trinode/tzaar/PieceType"), (.object "com/example/trinode/trinode/tzaar/PieceType"), (.object "com/example/trinode/trinode/tzaar/PieceType"), (.array (.object "com/example/trinode/trinode/tzaar/PieceType")), (.array (.object "com/example/trinode/trinode/tzaar/PieceType"))]
  resolved := Array.replicate 104 none
  statics := some 0 }

def pool7 : Array CpInfo := pool [(1, .class_ 2), (0, u "com/example/trinode/trinode/tzaar/Ending"), (2, u "IN_PROGRESS"), (0, u "Lcom/example/trinode/trinode/tzaar/Ending;"), (2, u "NO_TZAAR"), (2, u "NO_TZARRA"), (2, u "NO_TOTT"), (2, u "NO_CAPTURE"), (2, u "$VALUES"), (0, u "[Lcom/example/trinode/trinode/tzaar/Ending;"), (6, .class_ 31), (1, u "java/lang/Enum"), (8, u "text"), (0, u "Ljava/lang/String;"), (0, .fieldref 1 43), (0, .nameAndType 44 45), (0, u "lacked"), (0, u "Lcom/example/trinode/trinode/tzaar/PieceType;"), (0, .fieldref 1 47), (0, .nameAndType 48 22), (0, u "ENDINGS"), (59, u "without"), (0, u "(Lcom/example/trinode/trinode/tzaar/PieceType;)Lcom/example/trinode/trinode/tzaar/Ending;")] 24

def k7c0 : Code := { maxStack := 2, maxLocals := 6, code := prog_40_method_4_code, exceptionTable := #[], attributes := #[] }
def k7m0 : Method := { name := "without", desc := "(Lcom/example/trinode/trinode/tzaar/PieceType;)Lcom/example/trinode/trinode/tzaar/Ending;", sig := { parameters := [(.object "com/example/trinode/trinode/tzaar/PieceType")], returnType := some (.object "com/example/trinode/trinode/tzaar/Ending") }, accessFlags := 8, code := some k7c0 }
/-- com/example/trinode/trinode/tzaar/Ending -/
def k7 : Class := { plain "com/example/trinode/trinode/tzaar/Ending" (some 5) with
  accessFlags := 16433
  interfaces := #[]
  cf := some (fileOf pool7 1 #[] #[{ accessFlags := 8, nameIndex := 108, descriptorIndex := 109, attributes := #[] }] 16433 29 #[] #[{ accessFlags := 16409, nameIndex := 5, descriptorIndex := 6, attributes := #[] }, { accessFlags := 16409, nameIndex := 9, descriptorIndex := 6, attributes := #[] }, { accessFlags := 16409, nameIndex := 12, descriptorIndex := 6, attributes := #[] }, { accessFlags := 16409, nameIndex := 15, descriptorIndex := 6, attributes := #[] }, { accessFlags := 16409, nameIndex := 18, descriptorIndex := 6, attributes := #[] }, { accessFlags := 26, nameIndex := 48, descriptorIndex := 22, attributes := #[] }, { accessFlags := 18, nameIndex := 40, descriptorIndex := 41, attributes := #[] }, { accessFlags := 18, nameIndex := 44, descriptorIndex := 45, attributes := #[] }, { accessFlags := 4122, nameIndex := 21, descriptorIndex := 22, attributes := #[] }])
  fields := #[{ name := "IN_PROGRESS", type := (.object "com/example/trinode/trinode/tzaar/Ending"), accessFlags := 16409, slot := 0, constantValue := 0 }, { name := "NO_TZAAR", type := (.object "com/example/trinode/trinode/tzaar/Ending"), accessFlags := 16409, slot := 1, constantValue := 0 }, { name := "NO_TZARRA", type := (.object "com/example/trinode/trinode/tzaar/Ending"), accessFlags := 16409, slot := 2, constantValue := 0 }, { name := "NO_TOTT", type := (.object "com/example/trinode/trinode/tzaar/Ending"), accessFlags := 16409, slot := 3, constantValue := 0 }, { name := "NO_CAPTURE", type := (.object "com/example/trinode/trinode/tzaar/Ending"), accessFlags := 16409, slot := 4, constantValue := 0 }, { name := "ENDINGS", type := (.array (.object "com/example/trinode/trinode/tzaar/Ending")), accessFlags := 26, slot := 5, constantValue := 0 }, { name := "text", type := (.object "java/lang/String"), accessFlags := 18, slot := 3, constantValue := 0 }, { name := "lacked", type := (.object "com/example/trinode/trinode/tzaar/PieceType"), accessFlags := 18, slot := 4, constantValue := 0 }, { name := "$VALUES", type := (.array (.object "com/example/trinode/trinode/tzaar/Ending")), accessFlags := 4122, slot := 6, constantValue := 0 }]
  methods := #[k7m0]
  instanceTypes := #[(.object "java/lang/String"), .int, .int, (.object "java/lang/String"), (.object "com/example/trinode/trinode/tzaar/PieceType")]
  staticTypes := #[(.object "com/example/trinode/trinode/tzaar/Ending"), (.object "com/example/trinode/trinode/tzaar/Ending"), (.object "com/example/trinode/trinode/tzaar/Ending"), (.object "com/example/trinode/trinode/tzaar/Ending"), (.object "com/example/trinode/trinode/tzaar/Ending"), (.array (.object "com/example/trinode/trinode/tzaar/Ending")), (.array (.object "com/example/trinode/trinode/tzaar/Ending"))]
  resolved := Array.replicate 134 none
  statics := some 1 }

def pool8 : Array CpInfo := pool [(1, u "java/lang/Cloneable"), (0, .class_ 1), (0, u "java/lang/Object"), (0, .class_ 3)] 3

/-- java/lang/Cloneable -/
def k8 : Class := { plain "java/lang/Cloneable" (some 0) with
  accessFlags := 1537
  interfaces := #[]
  cf := some (fileOf pool8 2 #[] #[] 1537 4 #[] #[])
  fields := #[]
  methods := #[]
  instanceTypes := #[]
  staticTypes := #[]
  resolved := Array.replicate 8 none
  statics := none }

/-- the primitive byte -/
def k9 : Class := { plain "byte" none with kind := .primitive 'B', accessFlags := 0x411 }
/-- [B -/
def k10 : Class := { plain "[B" (some 0) with kind := .array 9 .byte, interfaces := #[8, 4], accessFlags := 1041 }

/-- the primitive int -/
def k11 : Class := { plain "int" none with kind := .primitive 'I', accessFlags := 0x411 }
/-- [I -/
def k12 : Class := { plain "[I" (some 0) with kind := .array 11 .int, interfaces := #[8, 4], accessFlags := 1041 }

/-- [Lcom/example/trinode/trinode/tzaar/Ending; -/
def k13 : Class := { plain "[Lcom/example/trinode/trinode/tzaar/Ending;" (some 0) with kind := .array 7 (.object "com/example/trinode/trinode/tzaar/Ending"), interfaces := #[8, 4], accessFlags := 1041 }

def heap : Heap := #[{ cls := 6, slots := #[.ref 3, .ref 9, .ref 7, .null, .null], vm := .statics 6 },
  { cls := 7, slots := #[.ref 5, .ref 6, .ref 8, .ref 4, .ref 10, .ref 2, .null], vm := .statics 7 },
  { cls := 13, slots := #[.ref 5, .ref 6, .ref 8, .ref 4, .ref 10], vm := .none },
  { cls := 6, slots := #[.null, .int 0, .int 0, .int 0, .null, .int 0], vm := .none },
  { cls := 7, slots := #[.null, .int 0, .int 0, .null, .ref 3], vm := .none },
  { cls := 7, slots := #[.null, .int 0, .int 0, .null, .null], vm := .none },
  { cls := 7, slots := #[.null, .int 0, .int 0, .null, .ref 7], vm := .none },
  { cls := 6, slots := #[.null, .int 2, .int 0, .int 0, .null, .int 0], vm := .none },
  { cls := 7, slots := #[.null, .int 0, .int 0, .null, .ref 9], vm := .none },
  { cls := 6, slots := #[.null, .int 1, .int 0, .int 0, .null, .int 0], vm := .none },
  { cls := 7, slots := #[.null, .int 0, .int 0, .null, .null], vm := .none }]
def classes : Array Class := #[k0, k1, k2, k3, k4, k5, k6, k7, k8, k9, k10, k11, k12, k13]
def interned : List (Array UInt16 × Addr) := []
def slotsUsed : Nat := 60
def theMethod : MethodId := ⟨1, 1⟩
def args0 : Array Value := #[.int 1]
def aboutOver (below : List Frame) : State where
  vm := { classes := classes, interned := interned.toArray }
  heap := heap
  slotsUsed := slotsUsed
  threads := #[{ frames := .invoking theMethod args0 :: below }]
def below0 : List Frame := [.native { method := ⟨0, 0⟩, args := #[] }]
def about1 : State := aboutOver below0
def p0 : Program := .bare "" "" ""
def e0 : Env := launch0.env 0 0 0
theorem w_frames : about1.frames = Frame.invoking theMethod args0 :: below0 := rfl
set_option maxRecDepth 65536 in
theorem w_args : argsFit about1.vm theMethod args0 = true := by decide +kernel
set_option maxRecDepth 65536 in
theorem w_heap : heapFits about1 = true := by decide +kernel
set_option maxRecDepth 65536 in
theorem w_runnable : about1.curStatus? = some .runnable := by decide +kernel
set_option maxRecDepth 65536 in
theorem w_alone : about1.alone = true := by decide +kernel
set_option maxRecDepth 65536 in
theorem w_named : about1.methodNamed? x = some theMethod := by decide +kernel
set_option maxRecDepth 65536 in
theorem w_hears : about1.hears theMethod below0 = true := by decide +kernel
set_option maxRecDepth 65536 in
theorem w_ripe : about1.ripe theMethod args0 below0 = true := by decide +kernel
theorem w_running : about1.status = .running := rfl
set_option maxRecDepth 65536 in
theorem w_room : about1.hasRoom e0.platform room_1 = true :=
  launch0.hasRoom_least _ room_1 (by decide +kernel) (by decide +kernel) (by decide +kernel) (by decide +kernel) (by decide +kernel) (by decide +kernel)
theorem allAtoms_all (ts : List Jvm.Cond) (a : Array Jvm.Value) (st : Jvm.State) : (allAtoms ts).before a st = ts.all (fun c => c.before a st) := by
  induction ts with
  | nil => rfl
  | cons c t ih =>
    show (Jvm.Cond.and c (allAtoms t)).before a st = _
    rw [Jvm.Cond.before_and, ih, List.all_cons]
def words1 : List Jvm.Cond := Jvm.Cond.code x code maxLocals ret :: tables_1
/-- a 'code' word, met by the world's own term for the bytes: nothing is compared byte by byte -/
theorem code_word {y : MethodName} {bytes : ByteArray} {mx : Nat} {rt : Option FieldType} {a : Array Value} {s : State} {m : MethodId} {meth : Method} {c : Code} (h1 : s.methodNamed? y = some m) (h2 : s.vm.method? m = some meth) (h3 : meth.code = some c) (h4 : c.code = bytes)
    (h5 : (c.maxLocals == mx && c.exceptionTable.isEmpty && decide (c.maxStack ≤ mostOperands) && decide (meth.sig.returnType = rt) && !meth.locks && decide (parseMethodDescriptor y.desc = some meth.sig)) = true) : (Jvm.Cond.code y bytes mx rt).before a s = true := by
  simp only [Bool.and_eq_true, beq_iff_eq, Bool.not_eq_true', decide_eq_true_eq] at h5
  obtain ⟨⟨⟨⟨⟨g1, g2⟩, g3⟩, g4⟩, g5⟩, g6⟩ := h5
  simp [Cond.before, Cond.holds, Cond.value, h1, h2, h3, h4, g1, g2, g3, g4, g5, g6]
def isCode : Jvm.Cond → Bool
  | .code _ _ _ _ => true
  | _ => false
theorem all_split {L : List Jvm.Cond} {P : Jvm.Cond → Bool} (h1 : L.all (fun c => isCode c || P c) = true) (h2 : ∀ c ∈ L.filter isCode, P c = true) : L.all P = true := by
  refine List.all_eq_true.mpr fun c hc => ?_
  have h := List.all_eq_true.mp h1 c hc
  rcases Bool.eq_false_or_eq_true (isCode c) with hi | hi
  · exact h2 c (List.mem_filter.mpr ⟨hc, hi⟩)
  · simpa [hi] using h
set_option maxRecDepth 65536 in
theorem w_c0 : (Jvm.Cond.code x code maxLocals ret).before args0 about1 = true := code_word (m := ⟨1, 1⟩) (meth := k1m1) (c := k1c1) (by decide +kernel) rfl rfl rfl (by decide +kernel)
set_option maxRecDepth 65536 in
theorem w_c1 : (Jvm.Cond.code ({ cls := "com/example/trinode/trinode/tzaar/Ending", name := "without", desc := "(Lcom/example/trinode/trinode/tzaar/PieceType;)Lcom/example/trinode/trinode/tzaar/Ending;" } : Jvm.MethodName) prog_40_method_4_code (6 : Nat) (Option.some (Jvm.ClassFile.FieldType.object "com/example/trinode/trinode/tzaar/Ending"))).before args0 about1 = true := code_word (m := ⟨7, 0⟩) (meth := k7m0) (c := k7c0) (by decide +kernel) rfl rfl rfl (by decide +kernel)
def codes1 : List Jvm.Cond := [Jvm.Cond.code x code maxLocals ret, Jvm.Cond.code ({ cls := "com/example/trinode/trinode/tzaar/Ending", name := "without", desc := "(Lcom/example/trinode/trinode/tzaar/PieceType;)Lcom/example/trinode/trinode/tzaar/Ending;" } : Jvm.MethodName) prog_40_method_4_code (6 : Nat) (Option.some (Jvm.ClassFile.FieldType.object "com/example/trinode/trinode/tzaar/Ending"))]
set_option maxRecDepth 65536 in
theorem codes_eq : words1.filter isCode = codes1 := rfl
theorem w_codes : ∀ c ∈ words1.filter isCode, c.before args0 about1 = true := by
  rw [codes_eq]
  intro c hc
  simp only [codes1, List.mem_cons, List.not_mem_nil, or_false] at hc
  rcases hc with rfl | rfl
  · exact w_c0
  · exact w_c1
set_option maxRecDepth 65536 in
theorem w_t1 : (words1.take 24).all (fun c => isCode c || c.before args0 about1) = true := by decide +kernel
set_option maxRecDepth 65536 in
theorem w_t2 : (words1.drop 24).all (fun c => isCode c || c.before args0 about1) = true := by decide +kernel
theorem w_tables : (allAtoms (Jvm.Cond.code x code maxLocals ret :: tables_1)).before args0 about1 = true := by
  rw [allAtoms_all]
  show words1.all (fun c => c.before args0 about1) = true
  refine all_split ?_ w_codes
  rw [← List.take_append_drop 24 words1, List.all_append, w_t1, w_t2]
  rfl
set_option maxRecDepth 65536 in
theorem w_case : (Jvm.Cond.and given_1 narrow_1).before args0 about1 = true := by decide +kernel
theorem w_applies : (headSpec (Jvm.Cond.code x code maxLocals ret :: tables_1) room_1).applies x e0.platform about1 = true :=
  (Spec.applies_iff w_frames).mpr ⟨w_running, w_runnable, w_alone, w_named, w_hears, w_ripe, w_room, w_tables⟩
theorem atStart : AtStart classFile x code maxLocals ret World_1 tables_1 room_1 Calls_1 rest_1 Pre_1 launch0 p0 e0 about1 theMethod args0 below0 :=
  ⟨lists_1, trivial, launch0.admits_env _ _ _, launch0.least_env, fairChoices_fair.cas, fairChoices_fair.clock, w_frames, w_args, w_heap, w_applies, trivial, trivial, w_case⟩
end start1
theorem witness_1 : WitnessClaimed_1 := ⟨start1.p0, start1.e0, start1.about1, start1.theMethod, start1.args0, start1.below0, start1.atStart⟩
end Jvm.Pilot.@@N@@
