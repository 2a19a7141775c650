import JvmDerived
import JvmDerived.Pilot.@@N@@Statement
import JvmDerived.Pilot.@@N@@Code
set_option linter.unusedVariables false
set_option linter.unusedSimpArgs false
namespace Jvm.RoadKit
open Sem ClassFile Op Lib Jvm.Stand Jvm.Free Jvm.LawKit
section New
variable {p : Program} {l : Launch} {e : Env} {R : Room} {s : State} {m : MethodId} {args : Array Value} {below : List Frame} {meth : Method} {c : Code} {T : State} {locs : List Loc} {cells slots : Nat}
theorem retI (X : Stand p l e R s m args below meth c T locs cells slots) (hx : p.tables.exec = Jvm.exec) {pc : Nat} {Ls : Array Slot} {z : Int32} {rest : List Value} (hret : meth.sig.returnType = some .int) (hd : decode c.code pc = .ok (.ireturn, 1)) {fs : List Frame}
    (hl : ∀ (f : JFrame) (acts : List Action), f.method = m → f.locked = none → f.entered = [] → (doReturn e (T.setTop f) acts (some (.int z))).1 = T.setFrames fs) : Steps p.tables e below (T.setTop (mkF m pc Ls (.int z :: rest))) (T.setFrames fs) := by
  have hm' : T.vm.method? m = some meth := X.method'
  have hn : narrow .int (.int z) = .int z := rfl
  show Steps p.tables e below (T.setTop { method := m, pc := pc, locals := Ls, stack := _ :: rest, locked := none }) _
  jvm_step X.here [X.here.top, hx, hd, hm', hret, hn]
  first | (intro acts; rw [hl _ acts rfl rfl rfl]) | rw [hl _ _ rfl rfl rfl]
  exact Steps.refl _
end New
/-- from this state a run goes on to an end that meets K -/
def Good (p : Program) (e : Env) (below : List Frame) (K : Outcome → State → Prop) (S : State) : Prop := ∃ s₂ o, Steps p.tables e below S s₂ ∧ s₂.status = .running ∧ Ended s₂ below o ∧ K o s₂
theorem Good.back {p : Program} {e : Env} {below : List Frame} {K : Outcome → State → Prop} {S S' : State} (h : ∀ t, Steps p.tables e below S' t → Steps p.tables e below S t) (g : Good p e below K S') : Good p e below K S := by
  obtain ⟨t, o, h1, h2⟩ := g
  exact ⟨t, o, h t h1, h2⟩
theorem Good.done {p : Program} {e : Env} {below : List Frame} {K : Outcome → State → Prop} {S t : State} {o : Outcome} (h1 : Steps p.tables e below S t) (h2 : t.status = .running) (h3 : Ended t below o) (h4 : K o t) : Good p e below K S := ⟨t, o, h1, h2, h3, h4⟩
end Jvm.RoadKit
namespace Jvm.Pilot.@@N@@
open Jvm Jvm.ClassFile Sem Op Lib Jvm.Free Jvm.Stand Jvm.LawKit Jvm.RoadKit Bundle Jvm.Pilot.@@N@@.Jvm.D
theorem own_small {e : Int32} {n : Nat} (h0 : 0 ≤ e.toInt) (hn : e.toInt < n) : ∃ k : Nat, k < n ∧ e = Int32.ofNat k := by
  refine ⟨e.toInt.toNat, by omega, ?_⟩
  apply Int32.toInt_inj.mp
  have hb := e.toInt_lt
  rw [Int32.toInt_ofNat_of_lt (by omega)]
  omega
theorem own_mask {x m : Int32} {n : Nat} (hm : 0 ≤ m.toInt) (hn : m.toInt < n) : ∃ k : Nat, k < n ∧ (x &&& m) = Int32.ofNat k := by
  have h := c_and x m hm
  exact own_small h.1 (by omega)
theorem own_modm {x y : Int32} {d : Int} {n : Nat} (hy : y.toInt = d) (hd : 0 < d) (hn : d ≤ n) : ∃ k : Nat, k < n ∧ ((x &&& (2147483647 : Int32)) % y) = Int32.ofNat k := by
  have h := c_and x 2147483647 (by decide)
  have h2 := (c_irem (x &&& 2147483647) y d hy).1 h.1
  refine own_small ?_ ?_ <;> rw [h2]
  · exact Int.emod_nonneg _ (by omega)
  · have := Int.emod_lt_of_pos (x &&& 2147483647).toInt hd
    omega

def own_upd (i : Int) (a w : Int64) (st : Int32) : Int64 := if st.toInt / 64 = i then a ||| (w <<< (st &&& 0x3f).toInt64) else if st.toInt / 64 + 1 = i ∧ ¬ st.toInt % 64 = 0 then a ||| ((w.toUInt64 >>> (((64 : Int32) - (st % (64 : Int32))) &&& 0x3f).toInt64.toUInt64).toInt64) else a
def own_moved (w : Int64) (d : Int32) : Int64 := if 64 ≤ d.toInt ∨ d.toInt ≤ -64 then 0 else if 0 ≤ d.toInt then w <<< (d &&& 0x3f).toInt64 else ((w.toUInt64 >>> ((-d) &&& 0x3f).toInt64.toUInt64).toInt64)
theorem own_m63 (x : Int32) : (x &&& 0x3f).toInt = x.toInt % 64 := c_mask x 0x3f 6 (by decide) (by decide)
theorem own_or0 (a : Int64) : a ||| 0 = a := by simp
theorem own_same {x y : Int32} (h : x.toInt % 64 = y.toInt % 64) : (x &&& 0x3f) = (y &&& 0x3f) := Int32.toInt_inj.mp (by rw [own_m63, own_m63, h])
theorem own_rem {st : Int32} (h : 0 ≤ st.toInt) : (st % (64 : Int32)).toInt = st.toInt % 64 := (c_irem st 64 64 rfl).1 h
theorem own_law (k : Int) (st d : Int32) (a w : Int64) (h : 0 ≤ st.toInt) (hd : d.toInt = st.toInt - 64 * k) (hk : 0 ≤ k) : own_upd k a w st = (a ||| own_moved w d) := by
  have hr := own_rem h
  have hb := st.toInt_lt
  have hs : ((64 : Int32) - (st % (64 : Int32))).toInt = 64 - st.toInt % 64 := by
    have := c_isub (64 : Int32) (st % (64 : Int32))
    have h64 : (64 : Int32).toInt = 64 := rfl
    have := rng32 ((64 : Int32) - (st % (64 : Int32)))
    omega
  have hn : d.toInt < 0 → -64 < d.toInt → (-d).toInt = - d.toInt := by
    intro hd0 hd1
    have := c_ineg d
    have := rng32 (-d)
    have := rng32 d
    omega
  unfold own_upd own_moved
  by_cases h1 : st.toInt / 64 = k
  · rw [if_pos h1, if_neg (by omega), if_pos (by omega), own_same (y := d) (by omega)]
  · rw [if_neg h1]
    by_cases h2 : st.toInt / 64 + 1 = k ∧ ¬ st.toInt % 64 = 0
    · rw [if_pos h2, if_neg (by omega), if_neg (by omega), own_same (y := -d) (by rw [hs, hn (by omega) (by omega)]; omega)]
    · rw [if_neg h2, if_pos (by omega), own_or0]
theorem own_sub (st c : Int32) (k : Int) (hc : c.toInt = k) (h : 0 ≤ st.toInt) (h0 : 0 ≤ k) : (st - c).toInt = st.toInt - k := by
  have := c_isub st c
  have := rng32 (st - c)
  have := rng32 st
  have := rng32 c
  omega
theorem own_le {x y : Int32} {k : Int} (hk : y.toInt = k) : (x < y ↔ x.toInt < k) ∧ (y < x ↔ k < x.toInt) := by
  rw [Int32.lt_iff_toInt_lt, Int32.lt_iff_toInt_lt, hk]; exact ⟨Iff.rfl, Iff.rfl⟩
theorem own_pn0 : plainName "com/example/fradno/fradno/core/CellSetOrPinLaw" = true := by first | (simp [plainName, overriddenIn]; done) | decide +kernel
theorem own_d2_0 : decode method_3_code 0 = .ok (.iload_n 2, 1) := by decide +kernel
theorem own_d2_1 : decode method_3_code 1 = .ok (.bipush 64, 2) := by decide +kernel
theorem own_d2_3 : decode method_3_code 3 = .ok (.if_icmp .ge 9, 3) := by decide +kernel
theorem own_d2_6 : decode method_3_code 6 = .ok (.iload_n 2, 1) := by decide +kernel
theorem own_d2_7 : decode method_3_code 7 = .ok (.bipush (-64), 2) := by decide +kernel
theorem own_d2_9 : decode method_3_code 9 = .ok (.if_icmp .gt 5, 3) := by decide +kernel
theorem own_d2_12 : decode method_3_code 12 = .ok (.lconst 0, 1) := by decide +kernel
theorem own_d2_13 : decode method_3_code 13 = .ok (.lreturn, 1) := by decide +kernel
theorem own_d2_14 : decode method_3_code 14 = .ok (.iload_n 2, 1) := by decide +kernel
theorem own_d2_15 : decode method_3_code 15 = .ok (.ifCond .lt 7, 3) := by decide +kernel
theorem own_d2_18 : decode method_3_code 18 = .ok (.lload_n 0, 1) := by decide +kernel
theorem own_d2_19 : decode method_3_code 19 = .ok (.iload_n 2, 1) := by decide +kernel
theorem own_d2_20 : decode method_3_code 20 = .ok (.lshl, 1) := by decide +kernel
theorem own_d2_21 : decode method_3_code 21 = .ok (.lreturn, 1) := by decide +kernel
theorem own_d2_22 : decode method_3_code 22 = .ok (.lload_n 0, 1) := by decide +kernel
theorem own_d2_23 : decode method_3_code 23 = .ok (.iload_n 2, 1) := by decide +kernel
theorem own_d2_24 : decode method_3_code 24 = .ok (.ineg, 1) := by decide +kernel
theorem own_d2_25 : decode method_3_code 25 = .ok (.lushr, 1) := by decide +kernel
theorem own_d2_26 : decode method_3_code 26 = .ok (.lreturn, 1) := by decide +kernel
theorem own_ef_2 (m : MethodId) (x0 : Int64) (x1 : Int32) : entryFrame m #[(.long x0), (.int x1)] 3 = mkF m 0 #[.val (.long x0), .second, .val (.int x1)] [] := by first | (simp [entryFrame, mkF, argsToLocals, Value.category]; done) | rfl
def Q2 (Z : State) (q0 : Int64) (p1 : Int32) (h0 : Heap) (n0 : Nat) (v : Option Value) (h : Heap) (L : List Loc) : Prop := v = some (.long (own_moved q0 p1)) ∧ Fr n0 L ∧ h = h0
set_option maxRecDepth 65536 in
set_option maxHeartbeats 40000000 in
theorem rm2 (l : Launch) (Z : State) (a0 : Array Value) (hw : ∀ d ∈ tables_1, d.before a0 Z = true) (ws : List Jvm.Cond) (q0 : Int64) (p1 : Int32) (h0 : Heap) (n0 : Nat) (Z0 : n0 ≤ h0.size)  :
    MetFree l (⟨"com/example/fradno/fradno/core/CellSetOrPinLaw", "moved", "(JI)J"⟩ : MethodName) (head1 (Jvm.Cond.code (⟨"com/example/fradno/fradno/core/CellSetOrPinLaw", "moved", "(JI)J"⟩ : MethodName) method_3_code 3 (some .long) :: ws) ({ frames := 0, cells := 0, slots := 0, locals := 0 } : Room)) (fun a U => a = #[(.long q0), (.int p1)] ∧ Z.Warmed39 U.vm ∧ U.heap = h0) (fun _ _ _ _ _ => True) (fun _ U o U' => ∃ v L, o = .returned v ∧ Q2 Z q0 p1 h0 n0 v U'.heap L ∧ FrameEnd U o U' L ({ frames := 0, cells := 0, slots := 0, locals := 0 } : Room).cells ({ frames := 0, cells := 0, slots := 0, locals := 0 } : Room).slots) := by
  refine MetFree.of_bodySF (plainFor_of_name own_pn0) hisR ?_
  intro p e s m args below meth c s₁ Bd hml0 hP hK
  obtain ⟨rfl, hZ, hh⟩ := hP
  have hx := Bd.exec
  have hby := Bd.bytes
  have hml : c.maxLocals = 3 := hml0
  have hown : s.vm.findClass "com/example/fradno/fradno/core/CellSetOrPinLaw" = some m.cls := findClass_of_methodNamed Bd.named
  have hnm := (name_of_methodNamed Bd.named Bd.method).1
  have X0 : Stand p l e ({ frames := 0, cells := 0, slots := 0, locals := 0 } : Room) s m #[(.long q0), (.int p1)] below meth c s₁ [] 0 0 := Stand.of_body Bd
  have e0 : s₁.heap = h0 := by rw [← hh, Bd.state]; rfl
  have N0 := Fr.nil n0
  show Good p e below (fun o U' => ∃ v L, o = .returned v ∧ Q2 Z q0 p1 h0 n0 v U'.heap L ∧ FrameEnd s o U' L ({ frames := 0, cells := 0, slots := 0, locals := 0 } : Room).cells ({ frames := 0, cells := 0, slots := 0, locals := 0 } : Room).slots) _
  refine Good.back (S' := s₁.setTop (mkF m 0 #[.val (.long q0), .second, .val (.int p1)] [])) (fun t k => castTop (own_ef_2 m q0 p1) k) ?_
  show Good p e below _ (s₁.setTop (mkF m 0 #[.val (.long q0), .second, .val (.int p1)] []))
  refine Good.back (fun _ k => XS.iloadN X0.here hx rfl (hb hby own_d2_0) rfl k) ?_
  show Good p e below _ (s₁.setTop (mkF m 1 #[.val (.long q0), .second, .val (.int p1)] [(.int p1)]))
  refine Good.back (fun _ k => XS.bipush X0.here hx rfl (hb hby own_d2_1) k) ?_
  show Good p e below _ (s₁.setTop (mkF m 3 #[.val (.long q0), .second, .val (.int p1)] [(.int (64 : Int32)), (.int p1)]))
  by_cases hc3_1 : p1 < (64 : Int32)
  · refine Good.back (fun _ k => XS.icmpNo X0.here hx rfl (hb hby own_d2_3) rfl (tlt hc3_1).2.1 k) ?_
    show Good p e below _ (s₁.setTop (mkF m 6 #[.val (.long q0), .second, .val (.int p1)] []))
    refine Good.back (fun _ k => XS.iloadN X0.here hx rfl (hb hby own_d2_6) rfl k) ?_
    show Good p e below _ (s₁.setTop (mkF m 7 #[.val (.long q0), .second, .val (.int p1)] [(.int p1)]))
    refine Good.back (fun _ k => XS.bipush X0.here hx rfl (hb hby own_d2_7) k) ?_
    show Good p e below _ (s₁.setTop (mkF m 9 #[.val (.long q0), .second, .val (.int p1)] [(.int (-64 : Int32)), (.int p1)]))
    by_cases hc9_2 : (-64 : Int32) < p1
    · refine Good.back (fun _ k => XS.icmpYes X0.here hx rfl (pc0 := 9) (pc' := 14) rfl (hb hby own_d2_9) rfl (tlt hc9_2).2.2.1 (by decide) (by decide) k) ?_
      show Good p e below _ (s₁.setTop (mkF m 14 #[.val (.long q0), .second, .val (.int p1)] []))
      refine Good.back (fun _ k => XS.iloadN X0.here hx rfl (hb hby own_d2_14) rfl k) ?_
      show Good p e below _ (s₁.setTop (mkF m 15 #[.val (.long q0), .second, .val (.int p1)] [(.int p1)]))
      by_cases hc15_3 : p1 < (0 : Int32)
      · refine Good.back (fun _ k => XS.ifYes X0.here hx rfl (pc0 := 15) (pc' := 22) rfl (hb hby own_d2_15) rfl ((if0 _ _).trans (tlt hc15_3).1) (by decide) (by decide) k) ?_
        show Good p e below _ (s₁.setTop (mkF m 22 #[.val (.long q0), .second, .val (.int p1)] []))
        refine Good.back (fun _ k => XS.lloadN X0.here hx rfl (hb hby own_d2_22) rfl k) ?_
        show Good p e below _ (s₁.setTop (mkF m 23 #[.val (.long q0), .second, .val (.int p1)] [(.long q0)]))
        refine Good.back (fun _ k => XS.iloadN X0.here hx rfl (hb hby own_d2_23) rfl k) ?_
        show Good p e below _ (s₁.setTop (mkF m 24 #[.val (.long q0), .second, .val (.int p1)] [(.int p1), (.long q0)]))
        refine Good.back (fun _ k => XS.ineg X0.here hx rfl (hb hby own_d2_24) rfl k) ?_
        show Good p e below _ (s₁.setTop (mkF m 25 #[.val (.long q0), .second, .val (.int p1)] [(.int (-p1)), (.long q0)]))
        refine Good.back (fun _ k => XS.lushr X0.here hx rfl (hb hby own_d2_25) rfl k) ?_
        show Good p e below _ (s₁.setTop (mkF m 26 #[.val (.long q0), .second, .val (.int p1)] [(.long ((q0.toUInt64 >>> ((-p1) &&& 0x3f).toInt64.toUInt64).toInt64))]))
        obtain ⟨fs4, hr4, hrun4, hended4, hW4, hsame4⟩ := X0.leave (v := some (.long ((q0.toUInt64 >>> ((-p1) &&& 0x3f).toInt64.toUInt64).toInt64))) (fun h => by rw [Bd.returns] at h; cases h)
        refine Good.done (retOut X0 hx Bd.returns rfl (Or.inr (Or.inl ⟨rfl, rfl, _, rfl⟩)) (hb hby own_d2_26) hr4) hrun4 hended4 ⟨_, _, rfl, ?_, ⟨_, rfl⟩, hW4, hsame4.mono (by decide) (by decide)⟩
        show Q2 Z q0 p1 h0 n0 _ s₁.heap _
        rw [e0]
        have m0 := ((own_le (x := p1) (y := (64 : Int32)) (k := 64) rfl).1.mp hc3_1)
        have m1 := ((own_le (x := p1) (y := (-64 : Int32)) (k := -64) rfl).2.mp hc9_2)
        have m2 := ((own_le (x := p1) (y := (0 : Int32)) (k := 0) rfl).1.mp hc15_3)
        refine ⟨congrArg (fun z => some (Value.long z)) ?_, N0, rfl⟩
        unfold own_moved
        rw [if_neg (by omega), if_neg (by omega)]
      · refine Good.back (fun _ k => XS.ifNo X0.here hx rfl (hb hby own_d2_15) rfl ((if0 _ _).trans (flt hc15_3).1) k) ?_
        show Good p e below _ (s₁.setTop (mkF m 18 #[.val (.long q0), .second, .val (.int p1)] []))
        refine Good.back (fun _ k => XS.lloadN X0.here hx rfl (hb hby own_d2_18) rfl k) ?_
        show Good p e below _ (s₁.setTop (mkF m 19 #[.val (.long q0), .second, .val (.int p1)] [(.long q0)]))
        refine Good.back (fun _ k => XS.iloadN X0.here hx rfl (hb hby own_d2_19) rfl k) ?_
        show Good p e below _ (s₁.setTop (mkF m 20 #[.val (.long q0), .second, .val (.int p1)] [(.int p1), (.long q0)]))
        refine Good.back (fun _ k => XS.lshl X0.here hx rfl (hb hby own_d2_20) rfl k) ?_
        show Good p e below _ (s₁.setTop (mkF m 21 #[.val (.long q0), .second, .val (.int p1)] [(.long (q0 <<< (p1 &&& 0x3f).toInt64))]))
        obtain ⟨fs5, hr5, hrun5, hended5, hW5, hsame5⟩ := X0.leave (v := some (.long (q0 <<< (p1 &&& 0x3f).toInt64))) (fun h => by rw [Bd.returns] at h; cases h)
        refine Good.done (retOut X0 hx Bd.returns rfl (Or.inr (Or.inl ⟨rfl, rfl, _, rfl⟩)) (hb hby own_d2_21) hr5) hrun5 hended5 ⟨_, _, rfl, ?_, ⟨_, rfl⟩, hW5, hsame5.mono (by decide) (by decide)⟩
        show Q2 Z q0 p1 h0 n0 _ s₁.heap _
        rw [e0]
        have m0 := ((own_le (x := p1) (y := (64 : Int32)) (k := 64) rfl).1.mp hc3_1)
        have m1 := ((own_le (x := p1) (y := (-64 : Int32)) (k := -64) rfl).2.mp hc9_2)
        have m2 := ((own_le (x := p1) (y := (0 : Int32)) (k := 0) rfl).1)
        have m2' : ¬ (p1.toInt < 0) := fun q => hc15_3 (m2.mpr q)
        refine ⟨congrArg (fun z => some (Value.long z)) ?_, N0, rfl⟩
        unfold own_moved
        rw [if_neg (by omega), if_pos (by omega)]
    · refine Good.back (fun _ k => XS.icmpNo X0.here hx rfl (hb hby own_d2_9) rfl (flt hc9_2).2.2.1 k) ?_
      show Good p e below _ (s₁.setTop (mkF m 12 #[.val (.long q0), .second, .val (.int p1)] []))
      refine Good.back (fun _ k => XS.lconst X0.here hx rfl (hb hby own_d2_12) k) ?_
      show Good p e below _ (s₁.setTop (mkF m 13 #[.val (.long q0), .second, .val (.int p1)] [(.long (0 : Int64))]))
      obtain ⟨fs6, hr6, hrun6, hended6, hW6, hsame6⟩ := X0.leave (v := some (.long (0 : Int64))) (fun h => by rw [Bd.returns] at h; cases h)
      refine Good.done (retOut X0 hx Bd.returns rfl (Or.inr (Or.inl ⟨rfl, rfl, _, rfl⟩)) (hb hby own_d2_13) hr6) hrun6 hended6 ⟨_, _, rfl, ?_, ⟨_, rfl⟩, hW6, hsame6.mono (by decide) (by decide)⟩
      show Q2 Z q0 p1 h0 n0 _ s₁.heap _
      rw [e0]
      have m0 := ((own_le (x := p1) (y := (64 : Int32)) (k := 64) rfl).1.mp hc3_1)
      have m1 := ((own_le (x := p1) (y := (-64 : Int32)) (k := -64) rfl).2)
      have m1' : ¬ (-64 < p1.toInt) := fun q => hc9_2 (m1.mpr q)
      refine ⟨congrArg (fun z => some (Value.long z)) ?_, N0, rfl⟩
      unfold own_moved
      rw [if_pos (by omega)]
  · refine Good.back (fun _ k => XS.icmpYes X0.here hx rfl (pc0 := 3) (pc' := 12) rfl (hb hby own_d2_3) rfl (flt hc3_1).2.1 (by decide) (by decide) k) ?_
    show Good p e below _ (s₁.setTop (mkF m 12 #[.val (.long q0), .second, .val (.int p1)] []))
    refine Good.back (fun _ k => XS.lconst X0.here hx rfl (hb hby own_d2_12) k) ?_
    show Good p e below _ (s₁.setTop (mkF m 13 #[.val (.long q0), .second, .val (.int p1)] [(.long (0 : Int64))]))
    obtain ⟨fs7, hr7, hrun7, hended7, hW7, hsame7⟩ := X0.leave (v := some (.long (0 : Int64))) (fun h => by rw [Bd.returns] at h; cases h)
    refine Good.done (retOut X0 hx Bd.returns rfl (Or.inr (Or.inl ⟨rfl, rfl, _, rfl⟩)) (hb hby own_d2_13) hr7) hrun7 hended7 ⟨_, _, rfl, ?_, ⟨_, rfl⟩, hW7, hsame7.mono (by decide) (by decide)⟩
    show Q2 Z q0 p1 h0 n0 _ s₁.heap _
    rw [e0]
    have m0 := ((own_le (x := p1) (y := (64 : Int32)) (k := 64) rfl).1)
    have m0' : ¬ (p1.toInt < 64) := fun q => hc3_1 (m0.mpr q)
    refine ⟨congrArg (fun z => some (Value.long z)) ?_, N0, rfl⟩
    unfold own_moved
    rw [if_pos (by omega)]
theorem own_pn1 : plainName "com/example/fradno/fradno/core/CellSet" = true := by first | (simp [plainName, overriddenIn]; done) | decide +kernel
theorem own_d1_0 : decode prog_35_method_7_code 0 = .ok (.iload_n 3, 1) := by decide +kernel
theorem own_d1_1 : decode prog_35_method_7_code 1 = .ok (.bipush 64, 2) := by decide +kernel
theorem own_d1_3 : decode prog_35_method_7_code 3 = .ok (.idiv, 1) := by decide +kernel
theorem own_d1_4 : decode prog_35_method_7_code 4 = .ok (.istore 4, 2) := by decide +kernel
theorem own_d1_6 : decode prog_35_method_7_code 6 = .ok (.iload 4, 2) := by decide +kernel
theorem own_d1_8 : decode prog_35_method_7_code 8 = .ok (.aload_n 0, 1) := by decide +kernel
theorem own_d1_9 : decode prog_35_method_7_code 9 = .ok (.arraylength, 1) := by decide +kernel
theorem own_d1_10 : decode prog_35_method_7_code 10 = .ok (.if_icmp .ge 47, 3) := by decide +kernel
theorem own_d1_57 : decode prog_35_method_7_code 57 = .ok (.return_, 1) := by decide +kernel
theorem own_ef_1_0 (m : MethodId) (x0 : Addr) (x1 : Int64) (x2 : Int32) : entryFrame m #[(.ref x0), (.long x1), (.int x2)] 5 = mkF m 0 #[.val (.ref x0), .val (.long x1), .second, .val (.int x2), .unset] [] := by first | (simp [entryFrame, mkF, argsToLocals, Value.category]; done) | rfl
def Q1_0 (Z : State) (r0 : Addr) (q1 : Int64) (p2 : Int32) (kk : ClassId) (h0 : Heap) (n0 : Nat) (v : Option Value) (h : Heap) (L : List Loc) : Prop := v = none ∧ Fr n0 L ∧ Keep h0 h [r0] ∧ Arv Z h r0 kk .long (0 : Int32) [] (.long (0 : Int64))
set_option maxRecDepth 65536 in
set_option maxHeartbeats 40000000 in
theorem rm1_0 (l : Launch) (Z : State) (a0 : Array Value) (hw : ∀ d ∈ tables_1, d.before a0 Z = true) (ws : List Jvm.Cond) (r0 : Addr) (q1 : Int64) (p2 : Int32) (kk : ClassId) (h0 : Heap) (n0 : Nat) (Z0 : n0 ≤ h0.size) (V0 : Arv Z h0 r0 kk .long (0 : Int32) [] (.long (0 : Int64))) (g0 : n0 ≤ r0) (hst : 0 ≤ p2.toInt) :
    MetFree l (⟨"com/example/fradno/fradno/core/CellSet", "or", "([JJI)V"⟩ : MethodName) (head1 (Jvm.Cond.code (⟨"com/example/fradno/fradno/core/CellSet", "or", "([JJI)V"⟩ : MethodName) prog_35_method_7_code 5 none :: ws) ({ frames := 0, cells := 0, slots := 0, locals := 0 } : Room)) (fun a U => a = #[(.ref r0), (.long q1), (.int p2)] ∧ Z.Warmed39 U.vm ∧ U.heap = h0) (fun _ _ _ _ _ => True) (fun _ U o U' => ∃ v L, o = .returned v ∧ Q1_0 Z r0 q1 p2 kk h0 n0 v U'.heap L ∧ FrameEnd U o U' L ({ frames := 0, cells := 0, slots := 0, locals := 0 } : Room).cells ({ frames := 0, cells := 0, slots := 0, locals := 0 } : Room).slots) := by
  refine MetFree.of_bodySF (plainFor_of_name own_pn1) hisR ?_
  intro p e s m args below meth c s₁ Bd hml0 hP hK
  obtain ⟨rfl, hZ, hh⟩ := hP
  have hx := Bd.exec
  have hby := Bd.bytes
  have hml : c.maxLocals = 5 := hml0
  have hown : s.vm.findClass "com/example/fradno/fradno/core/CellSet" = some m.cls := findClass_of_methodNamed Bd.named
  have hnm := (name_of_methodNamed Bd.named Bd.method).1
  have X0 : Stand p l e ({ frames := 0, cells := 0, slots := 0, locals := 0 } : Room) s m #[(.ref r0), (.long q1), (.int p2)] below meth c s₁ [] 0 0 := Stand.of_body Bd
  have e0 : s₁.heap = h0 := by rw [← hh, Bd.state]; rfl
  have N0 := Fr.nil n0
  have KR : Keep h0 h0 [r0] := Keep.refl h0 _
  show Good p e below (fun o U' => ∃ v L, o = .returned v ∧ Q1_0 Z r0 q1 p2 kk h0 n0 v U'.heap L ∧ FrameEnd s o U' L ({ frames := 0, cells := 0, slots := 0, locals := 0 } : Room).cells ({ frames := 0, cells := 0, slots := 0, locals := 0 } : Room).slots) _
  refine Good.back (S' := s₁.setTop (mkF m 0 #[.val (.ref r0), .val (.long q1), .second, .val (.int p2), .unset] [])) (fun t k => castTop (own_ef_1_0 m r0 q1 p2) k) ?_
  show Good p e below _ (s₁.setTop (mkF m 0 #[.val (.ref r0), .val (.long q1), .second, .val (.int p2), .unset] []))
  refine Good.back (fun _ k => XS.iloadN X0.here hx rfl (hb hby own_d1_0) rfl k) ?_
  show Good p e below _ (s₁.setTop (mkF m 1 #[.val (.ref r0), .val (.long q1), .second, .val (.int p2), .unset] [(.int p2)]))
  refine Good.back (fun _ k => XS.bipush X0.here hx rfl (hb hby own_d1_1) k) ?_
  show Good p e below _ (s₁.setTop (mkF m 3 #[.val (.ref r0), .val (.long q1), .second, .val (.int p2), .unset] [(.int (64 : Int32)), (.int p2)]))
  refine Good.back (fun _ k => XS.idiv X0.here hx rfl (hb hby own_d1_3) rfl (by decide) k) ?_
  show Good p e below _ (s₁.setTop (mkF m 4 #[.val (.ref r0), .val (.long q1), .second, .val (.int p2), .unset] [(.int (p2 / (64 : Int32)))]))
  refine Good.back (fun _ k => XS.istore X0.here hx rfl (hb hby own_d1_4) rfl (l' := #[.val (.ref r0), .val (.long q1), .second, .val (.int p2), .val (.int (p2 / (64 : Int32)))]) rfl k) ?_
  show Good p e below _ (s₁.setTop (mkF m 6 #[.val (.ref r0), .val (.long q1), .second, .val (.int p2), .val (.int (p2 / (64 : Int32)))] []))
  have hdiv : ((p2 / (64 : Int32))).toInt = p2.toInt / 64 := (c_idiv p2 64 64 rfl (by decide)).1 hst
  have hrem := own_rem hst
  have hk : 0 ≤ p2.toInt / 64 := by omega
  show Good p e below _ (s₁.setTop (mkF m 6 #[.val (.ref r0), .val (.long q1), .second, .val (.int p2), .val (.int (p2 / (64 : Int32)))] []))
  refine Good.back (fun _ k => XS.iload X0.here hx rfl (hb hby own_d1_6) rfl k) ?_
  show Good p e below _ (s₁.setTop (mkF m 8 #[.val (.ref r0), .val (.long q1), .second, .val (.int p2), .val (.int (p2 / (64 : Int32)))] [(.int (p2 / (64 : Int32)))]))
  refine Good.back (fun _ k => XS.aloadN X0.here hx rfl (hb hby own_d1_8) rfl rfl k) ?_
  show Good p e below _ (s₁.setTop (mkF m 9 #[.val (.ref r0), .val (.long q1), .second, .val (.int p2), .val (.int (p2 / (64 : Int32)))] [(.ref r0), (.int (p2 / (64 : Int32)))]))
  have fc1 := V0
  obtain ⟨cl1, Ar1, qk1, S1, N1', H1, G1⟩ := fc1
  refine Good.back (X0.arraylength hx (by rw [e0]; exact Ar1.1) (State.isArrayOf_alike hZ.alike Ar1.2.1) (g := (mkF m 9 #[.val (.ref r0), .val (.long q1), .second, .val (.int p2), .val (.int (p2 / (64 : Int32)))] [(.ref r0), (.int (p2 / (64 : Int32)))])) rfl rfl (hb hby own_d1_9)) ?_
  rw [len_of S1 N1']
  show Good p e below _ (s₁.setTop (mkF m 10 #[.val (.ref r0), .val (.long q1), .second, .val (.int p2), .val (.int (p2 / (64 : Int32)))] [(.int (0 : Int32)), (.int (p2 / (64 : Int32)))]))
  refine Good.back (fun _ k => XS.icmpYes X0.here hx rfl (pc0 := 10) (pc' := 57) rfl (hb hby own_d1_10) rfl (flt (by rw [Int32.lt_iff_toInt_lt, hdiv]; show ¬ (_ < (0 : Int)); omega)).2.1 (by decide) (by decide) k) ?_
  show Good p e below _ (s₁.setTop (mkF m 57 #[.val (.ref r0), .val (.long q1), .second, .val (.int p2), .val (.int (p2 / (64 : Int32)))] []))
  obtain ⟨fs2, hr2, hrun2, hended2, hW2, hsame2⟩ := X0.leave (v := none) (fun _ => rfl)
  refine Good.done (X0.returnOut hx Bd.returns (hb hby own_d1_57) hr2) hrun2 hended2 ⟨_, _, rfl, ?_, ⟨_, rfl⟩, hW2, hsame2.mono (by decide) (by decide)⟩
  show Q1_0 Z r0 q1 p2 kk h0 n0 _ s₁.heap _
  rw [e0]
  refine ⟨rfl, N0, KR, ?_⟩
  exact V0
theorem own_d1_13 : decode prog_35_method_7_code 13 = .ok (.aload_n 0, 1) := by decide +kernel
theorem own_d1_14 : decode prog_35_method_7_code 14 = .ok (.iload 4, 2) := by decide +kernel
theorem own_d1_16 : decode prog_35_method_7_code 16 = .ok (.dup2, 1) := by decide +kernel
theorem own_d1_17 : decode prog_35_method_7_code 17 = .ok (.laload, 1) := by decide +kernel
theorem own_d1_18 : decode prog_35_method_7_code 18 = .ok (.lload_n 1, 1) := by decide +kernel
theorem own_d1_19 : decode prog_35_method_7_code 19 = .ok (.iload_n 3, 1) := by decide +kernel
theorem own_d1_20 : decode prog_35_method_7_code 20 = .ok (.lshl, 1) := by decide +kernel
theorem own_d1_21 : decode prog_35_method_7_code 21 = .ok (.lor, 1) := by decide +kernel
theorem own_d1_22 : decode prog_35_method_7_code 22 = .ok (.lastore, 1) := by decide +kernel
theorem own_d1_23 : decode prog_35_method_7_code 23 = .ok (.iload_n 3, 1) := by decide +kernel
theorem own_d1_24 : decode prog_35_method_7_code 24 = .ok (.bipush 64, 2) := by decide +kernel
theorem own_d1_26 : decode prog_35_method_7_code 26 = .ok (.irem, 1) := by decide +kernel
theorem own_d1_27 : decode prog_35_method_7_code 27 = .ok (.ifCond .eq 30, 3) := by decide +kernel
theorem own_d1_30 : decode prog_35_method_7_code 30 = .ok (.iload 4, 2) := by decide +kernel
theorem own_d1_32 : decode prog_35_method_7_code 32 = .ok (.iconst 1, 1) := by decide +kernel
theorem own_d1_33 : decode prog_35_method_7_code 33 = .ok (.iadd, 1) := by decide +kernel
theorem own_d1_34 : decode prog_35_method_7_code 34 = .ok (.aload_n 0, 1) := by decide +kernel
theorem own_d1_35 : decode prog_35_method_7_code 35 = .ok (.arraylength, 1) := by decide +kernel
theorem own_d1_36 : decode prog_35_method_7_code 36 = .ok (.if_icmp .ge 21, 3) := by decide +kernel
theorem own_ef_1_1 (m : MethodId) (x0 : Addr) (x1 : Int64) (x2 : Int32) : entryFrame m #[(.ref x0), (.long x1), (.int x2)] 5 = mkF m 0 #[.val (.ref x0), .val (.long x1), .second, .val (.int x2), .unset] [] := by first | (simp [entryFrame, mkF, argsToLocals, Value.category]; done) | rfl
def Q1_1 (Z : State) (r0 : Addr) (q1 : Int64) (p2 : Int32) (kk : ClassId) (u0 : Int64) (h0 : Heap) (n0 : Nat) (v : Option Value) (h : Heap) (L : List Loc) : Prop := v = none ∧ Fr n0 L ∧ Keep h0 h [r0] ∧ Arv Z h r0 kk .long (1 : Int32) [(.long (own_upd 0 u0 q1 p2))] (.long (0 : Int64))
set_option maxRecDepth 65536 in
set_option maxHeartbeats 40000000 in
theorem rm1_1 (l : Launch) (Z : State) (a0 : Array Value) (hw : ∀ d ∈ tables_1, d.before a0 Z = true) (ws : List Jvm.Cond) (r0 : Addr) (q1 : Int64) (p2 : Int32) (kk : ClassId) (u0 : Int64) (h0 : Heap) (n0 : Nat) (Z0 : n0 ≤ h0.size) (V0 : Arv Z h0 r0 kk .long (1 : Int32) [(.long u0)] (.long (0 : Int64))) (g0 : n0 ≤ r0) (hst : 0 ≤ p2.toInt) :
    MetFree l (⟨"com/example/fradno/fradno/core/CellSet", "or", "([JJI)V"⟩ : MethodName) (head1 (Jvm.Cond.code (⟨"com/example/fradno/fradno/core/CellSet", "or", "([JJI)V"⟩ : MethodName) prog_35_method_7_code 5 none :: ws) ({ frames := 0, cells := 0, slots := 0, locals := 0 } : Room)) (fun a U => a = #[(.ref r0), (.long q1), (.int p2)] ∧ Z.Warmed39 U.vm ∧ U.heap = h0) (fun _ _ _ _ _ => True) (fun _ U o U' => ∃ v L, o = .returned v ∧ Q1_1 Z r0 q1 p2 kk u0 h0 n0 v U'.heap L ∧ FrameEnd U o U' L ({ frames := 0, cells := 0, slots := 0, locals := 0 } : Room).cells ({ frames := 0, cells := 0, slots := 0, locals := 0 } : Room).slots) := by
  refine MetFree.of_bodySF (plainFor_of_name own_pn1) hisR ?_
  intro p e s m args below meth c s₁ Bd hml0 hP hK
  obtain ⟨rfl, hZ, hh⟩ := hP
  have hx := Bd.exec
  have hby := Bd.bytes
  have hml : c.maxLocals = 5 := hml0
  have hown : s.vm.findClass "com/example/fradno/fradno/core/CellSet" = some m.cls := findClass_of_methodNamed Bd.named
  have hnm := (name_of_methodNamed Bd.named Bd.method).1
  have X0 : Stand p l e ({ frames := 0, cells := 0, slots := 0, locals := 0 } : Room) s m #[(.ref r0), (.long q1), (.int p2)] below meth c s₁ [] 0 0 := Stand.of_body Bd
  have e0 : s₁.heap = h0 := by rw [← hh, Bd.state]; rfl
  have N0 := Fr.nil n0
  have KR : Keep h0 h0 [r0] := Keep.refl h0 _
  show Good p e below (fun o U' => ∃ v L, o = .returned v ∧ Q1_1 Z r0 q1 p2 kk u0 h0 n0 v U'.heap L ∧ FrameEnd s o U' L ({ frames := 0, cells := 0, slots := 0, locals := 0 } : Room).cells ({ frames := 0, cells := 0, slots := 0, locals := 0 } : Room).slots) _
  refine Good.back (S' := s₁.setTop (mkF m 0 #[.val (.ref r0), .val (.long q1), .second, .val (.int p2), .unset] [])) (fun t k => castTop (own_ef_1_1 m r0 q1 p2) k) ?_
  show Good p e below _ (s₁.setTop (mkF m 0 #[.val (.ref r0), .val (.long q1), .second, .val (.int p2), .unset] []))
  refine Good.back (fun _ k => XS.iloadN X0.here hx rfl (hb hby own_d1_0) rfl k) ?_
  show Good p e below _ (s₁.setTop (mkF m 1 #[.val (.ref r0), .val (.long q1), .second, .val (.int p2), .unset] [(.int p2)]))
  refine Good.back (fun _ k => XS.bipush X0.here hx rfl (hb hby own_d1_1) k) ?_
  show Good p e below _ (s₁.setTop (mkF m 3 #[.val (.ref r0), .val (.long q1), .second, .val (.int p2), .unset] [(.int (64 : Int32)), (.int p2)]))
  refine Good.back (fun _ k => XS.idiv X0.here hx rfl (hb hby own_d1_3) rfl (by decide) k) ?_
  show Good p e below _ (s₁.setTop (mkF m 4 #[.val (.ref r0), .val (.long q1), .second, .val (.int p2), .unset] [(.int (p2 / (64 : Int32)))]))
  refine Good.back (fun _ k => XS.istore X0.here hx rfl (hb hby own_d1_4) rfl (l' := #[.val (.ref r0), .val (.long q1), .second, .val (.int p2), .val (.int (p2 / (64 : Int32)))]) rfl k) ?_
  show Good p e below _ (s₁.setTop (mkF m 6 #[.val (.ref r0), .val (.long q1), .second, .val (.int p2), .val (.int (p2 / (64 : Int32)))] []))
  have hdiv : ((p2 / (64 : Int32))).toInt = p2.toInt / 64 := (c_idiv p2 64 64 rfl (by decide)).1 hst
  have hrem := own_rem hst
  rcases (by omega : p2.toInt / 64 = 0 ∨ 1 ≤ p2.toInt / 64) with hk | hk
  · have he : (p2 / (64 : Int32)) = (0 : Int32) := Int32.toInt_inj.mp (by rw [hdiv, hk]; rfl)
    rw [he]
    show Good p e below _ (s₁.setTop (mkF m 6 #[.val (.ref r0), .val (.long q1), .second, .val (.int p2), .val (.int (0 : Int32))] []))
    refine Good.back (fun _ k => XS.iload X0.here hx rfl (hb hby own_d1_6) rfl k) ?_
    show Good p e below _ (s₁.setTop (mkF m 8 #[.val (.ref r0), .val (.long q1), .second, .val (.int p2), .val (.int (0 : Int32))] [(.int (0 : Int32))]))
    refine Good.back (fun _ k => XS.aloadN X0.here hx rfl (hb hby own_d1_8) rfl rfl k) ?_
    show Good p e below _ (s₁.setTop (mkF m 9 #[.val (.ref r0), .val (.long q1), .second, .val (.int p2), .val (.int (0 : Int32))] [(.ref r0), (.int (0 : Int32))]))
    have fc1 := V0
    obtain ⟨cl1, Ar1, qk1, S1, N1', H1, G1⟩ := fc1
    refine Good.back (X0.arraylength hx (by rw [e0]; exact Ar1.1) (State.isArrayOf_alike hZ.alike Ar1.2.1) (g := (mkF m 9 #[.val (.ref r0), .val (.long q1), .second, .val (.int p2), .val (.int (0 : Int32))] [(.ref r0), (.int (0 : Int32))])) rfl rfl (hb hby own_d1_9)) ?_
    rw [len_of S1 N1']
    show Good p e below _ (s₁.setTop (mkF m 10 #[.val (.ref r0), .val (.long q1), .second, .val (.int p2), .val (.int (0 : Int32))] [(.int (1 : Int32)), (.int (0 : Int32))]))
    refine Good.back (fun _ k => XS.icmpNo X0.here hx rfl (hb hby own_d1_10) rfl (tlt (by decide : ((0 : Int32) < (1 : Int32)))).2.1 k) ?_
    show Good p e below _ (s₁.setTop (mkF m 13 #[.val (.ref r0), .val (.long q1), .second, .val (.int p2), .val (.int (0 : Int32))] []))
    refine Good.back (fun _ k => XS.aloadN X0.here hx rfl (hb hby own_d1_13) rfl rfl k) ?_
    show Good p e below _ (s₁.setTop (mkF m 14 #[.val (.ref r0), .val (.long q1), .second, .val (.int p2), .val (.int (0 : Int32))] [(.ref r0)]))
    refine Good.back (fun _ k => XS.iload X0.here hx rfl (hb hby own_d1_14) rfl k) ?_
    show Good p e below _ (s₁.setTop (mkF m 16 #[.val (.ref r0), .val (.long q1), .second, .val (.int p2), .val (.int (0 : Int32))] [(.int (0 : Int32)), (.ref r0)]))
    refine Good.back (fun _ k => Jvm.Free.XT.dup2 X0.here hx rfl (hb hby own_d1_16) rfl rfl rfl k) ?_
    show Good p e below _ (s₁.setTop (mkF m 17 #[.val (.ref r0), .val (.long q1), .second, .val (.int p2), .val (.int (0 : Int32))] [(.int (0 : Int32)), (.ref r0), (.int (0 : Int32)), (.ref r0)]))
    have fc2 := V0
    obtain ⟨cl2, Ar2, qk2, S2, N2', H2, G2⟩ := fc2
    have hin2 : ¬ ((0 : Int32) < 0 ∨ cl2.slots.size ≤ ((0 : Int32)).toNatClampNeg) := inb_of S2 ⟨by decide, by decide⟩
    have hat2 : cl2.slots[((0 : Int32)).toNatClampNeg]? = some (.long u0) := Has.at H2 hin2 rfl
    refine Good.back (X0.laload hx (j := (0 : Int32)) (v := (.long u0)) (by rw [e0]; exact Ar2.1) (State.isArrayOf_alike hZ.alike Ar2.2.1) Ar2.2.2 hin2 hat2 (g := (mkF m 17 #[.val (.ref r0), .val (.long q1), .second, .val (.int p2), .val (.int (0 : Int32))] [(.int (0 : Int32)), (.ref r0), (.int (0 : Int32)), (.ref r0)])) rfl rfl (hb hby own_d1_17)) ?_
    show Good p e below _ (s₁.setTop (mkF m 18 #[.val (.ref r0), .val (.long q1), .second, .val (.int p2), .val (.int (0 : Int32))] [(.long u0), (.int (0 : Int32)), (.ref r0)]))
    refine Good.back (fun _ k => XS.lloadN X0.here hx rfl (hb hby own_d1_18) rfl k) ?_
    show Good p e below _ (s₁.setTop (mkF m 19 #[.val (.ref r0), .val (.long q1), .second, .val (.int p2), .val (.int (0 : Int32))] [(.long q1), (.long u0), (.int (0 : Int32)), (.ref r0)]))
    refine Good.back (fun _ k => XS.iloadN X0.here hx rfl (hb hby own_d1_19) rfl k) ?_
    show Good p e below _ (s₁.setTop (mkF m 20 #[.val (.ref r0), .val (.long q1), .second, .val (.int p2), .val (.int (0 : Int32))] [(.int p2), (.long q1), (.long u0), (.int (0 : Int32)), (.ref r0)]))
    refine Good.back (fun _ k => XS.lshl X0.here hx rfl (hb hby own_d1_20) rfl k) ?_
    show Good p e below _ (s₁.setTop (mkF m 21 #[.val (.ref r0), .val (.long q1), .second, .val (.int p2), .val (.int (0 : Int32))] [(.long (q1 <<< (p2 &&& 0x3f).toInt64)), (.long u0), (.int (0 : Int32)), (.ref r0)]))
    refine Good.back (fun _ k => XS.lor X0.here hx rfl (hb hby own_d1_21) rfl k) ?_
    show Good p e below _ (s₁.setTop (mkF m 22 #[.val (.ref r0), .val (.long q1), .second, .val (.int p2), .val (.int (0 : Int32))] [(.long (u0 ||| (q1 <<< (p2 &&& 0x3f).toInt64))), (.int (0 : Int32)), (.ref r0)]))
    have fc3 := V0
    obtain ⟨cl3, Ar3, qk3, S3, N3', H3, G3⟩ := fc3
    have hin3 : ¬ ((0 : Int32) < 0 ∨ cl3.slots.size ≤ ((0 : Int32)).toNatClampNeg) := inb_of S3 ⟨by decide, by decide⟩
    obtain ⟨T3, h3, X3, e3, W3, st3⟩ := stJ X0 hx hZ e0 Ar3 (j := (0 : Int32)) hin3 (g := (mkF m 22 #[.val (.ref r0), .val (.long q1), .second, .val (.int p2), .val (.int (0 : Int32))] [(.long (u0 ||| (q1 <<< (p2 &&& 0x3f).toInt64))), (.int (0 : Int32)), (.ref r0)])) rfl rfl (hb hby own_d1_22)
    refine Good.back st3 ?_
    have f_4 : Arv Z h3 r0 kk .long (1 : Int32) [(.long (u0 ||| (q1 <<< (p2 &&& 0x3f).toInt64)))] (.long (0 : Int64)) := Arv.set Ar3 qk3 S3 N3' H3 G3 rfl W3 0 rfl (Nat.le_of_ble_eq_true rfl)
    have N3 := Fr.snoc X3 N0 g0
    have Z5 : n0 ≤ h3.size := Nat.le_trans Z0 (Keep.of_wr W3).1
    have K6 : Keep h0 h3 [r0] := KR.wr W3 (Or.inl (List.mem_of_getElem? (i := 0) rfl))
    show Good p e below _ (T3.setTop (mkF m 23 #[.val (.ref r0), .val (.long q1), .second, .val (.int p2), .val (.int (0 : Int32))] []))
    refine Good.back (fun _ k => XS.iloadN X3.here hx rfl (hb hby own_d1_23) rfl k) ?_
    show Good p e below _ (T3.setTop (mkF m 24 #[.val (.ref r0), .val (.long q1), .second, .val (.int p2), .val (.int (0 : Int32))] [(.int p2)]))
    refine Good.back (fun _ k => XS.bipush X3.here hx rfl (hb hby own_d1_24) k) ?_
    show Good p e below _ (T3.setTop (mkF m 26 #[.val (.ref r0), .val (.long q1), .second, .val (.int p2), .val (.int (0 : Int32))] [(.int (64 : Int32)), (.int p2)]))
    refine Good.back (fun _ k => iremM (g := (mkF m 26 #[.val (.ref r0), .val (.long q1), .second, .val (.int p2), .val (.int (0 : Int32))] [(.int (64 : Int32)), (.int p2)])) X3 hx rfl (hb hby own_d1_26) rfl (by decide) k) ?_
    show Good p e below _ (T3.setTop (mkF m 27 #[.val (.ref r0), .val (.long q1), .second, .val (.int p2), .val (.int (0 : Int32))] [(.int (p2 % (64 : Int32)))]))
    by_cases hc27_7 : (p2 % (64 : Int32)) = (0 : Int32)
    · refine Good.back (fun _ k => XS.ifYes X3.here hx rfl (pc0 := 27) (pc' := 57) rfl (hb hby own_d1_27) rfl ((if0 _ _).trans (teq hc27_7).1) (by decide) (by decide) k) ?_
      show Good p e below _ (T3.setTop (mkF m 57 #[.val (.ref r0), .val (.long q1), .second, .val (.int p2), .val (.int (0 : Int32))] []))
      obtain ⟨fs8, hr8, hrun8, hended8, hW8, hsame8⟩ := X3.leave (v := none) (fun _ => rfl)
      refine Good.done (X3.returnOut hx Bd.returns (hb hby own_d1_57) hr8) hrun8 hended8 ⟨_, _, rfl, ?_, ⟨_, rfl⟩, hW8, hsame8.mono (by decide) (by decide)⟩
      show Q1_1 Z r0 q1 p2 kk u0 h0 n0 _ T3.heap _
      rw [e3]
      have hr0 : p2.toInt % 64 = 0 := by rw [← hrem, hc27_7]; rfl
      have eu0 : own_upd 0 u0 q1 p2 = (u0 ||| (q1 <<< (p2 &&& 0x3f).toInt64)) := by rw [own_upd, if_pos hk]
      refine ⟨rfl, N3, K6, ?_⟩
      rw [eu0]
      exact f_4
    · refine Good.back (fun _ k => XS.ifNo X3.here hx rfl (hb hby own_d1_27) rfl ((if0 _ _).trans (feq hc27_7).1) k) ?_
      show Good p e below _ (T3.setTop (mkF m 30 #[.val (.ref r0), .val (.long q1), .second, .val (.int p2), .val (.int (0 : Int32))] []))
      refine Good.back (fun _ k => XS.iload X3.here hx rfl (hb hby own_d1_30) rfl k) ?_
      show Good p e below _ (T3.setTop (mkF m 32 #[.val (.ref r0), .val (.long q1), .second, .val (.int p2), .val (.int (0 : Int32))] [(.int (0 : Int32))]))
      refine Good.back (fun _ k => XS.iconst X3.here hx rfl (hb hby own_d1_32) k) ?_
      show Good p e below _ (T3.setTop (mkF m 33 #[.val (.ref r0), .val (.long q1), .second, .val (.int p2), .val (.int (0 : Int32))] [(.int (1 : Int32)), (.int (0 : Int32))]))
      refine Good.back (fun _ k => XS.iadd X3.here hx rfl (hb hby own_d1_33) rfl k) ?_
      show Good p e below _ (T3.setTop (mkF m 34 #[.val (.ref r0), .val (.long q1), .second, .val (.int p2), .val (.int (0 : Int32))] [(.int ((0 : Int32) + (1 : Int32)))]))
      rw [show (((0 : Int32) + (1 : Int32)) : Int32) = (1 : Int32) from by decide]
      show Good p e below _ (T3.setTop (mkF m 34 #[.val (.ref r0), .val (.long q1), .second, .val (.int p2), .val (.int (0 : Int32))] [(.int (1 : Int32))]))
      refine Good.back (fun _ k => XS.aloadN X3.here hx rfl (hb hby own_d1_34) rfl rfl k) ?_
      show Good p e below _ (T3.setTop (mkF m 35 #[.val (.ref r0), .val (.long q1), .second, .val (.int p2), .val (.int (0 : Int32))] [(.ref r0), (.int (1 : Int32))]))
      have fc9 := f_4
      obtain ⟨cl9, Ar9, qk9, S9, N9', H9, G9⟩ := fc9
      refine Good.back (X3.arraylength hx (by rw [e3]; exact Ar9.1) (State.isArrayOf_alike hZ.alike Ar9.2.1) (g := (mkF m 35 #[.val (.ref r0), .val (.long q1), .second, .val (.int p2), .val (.int (0 : Int32))] [(.ref r0), (.int (1 : Int32))])) rfl rfl (hb hby own_d1_35)) ?_
      rw [len_of S9 N9']
      show Good p e below _ (T3.setTop (mkF m 36 #[.val (.ref r0), .val (.long q1), .second, .val (.int p2), .val (.int (0 : Int32))] [(.int (1 : Int32)), (.int (1 : Int32))]))
      refine Good.back (fun _ k => XS.icmpYes X3.here hx rfl (pc0 := 36) (pc' := 57) rfl (hb hby own_d1_36) rfl (flt (by decide : ¬ ((1 : Int32) < (1 : Int32)))).2.1 (by decide) (by decide) k) ?_
      show Good p e below _ (T3.setTop (mkF m 57 #[.val (.ref r0), .val (.long q1), .second, .val (.int p2), .val (.int (0 : Int32))] []))
      obtain ⟨fs10, hr10, hrun10, hended10, hW10, hsame10⟩ := X3.leave (v := none) (fun _ => rfl)
      refine Good.done (X3.returnOut hx Bd.returns (hb hby own_d1_57) hr10) hrun10 hended10 ⟨_, _, rfl, ?_, ⟨_, rfl⟩, hW10, hsame10.mono (by decide) (by decide)⟩
      show Q1_1 Z r0 q1 p2 kk u0 h0 n0 _ T3.heap _
      rw [e3]
      have hr0 : ¬ p2.toInt % 64 = 0 := fun q => hc27_7 (Int32.toInt_inj.mp (by rw [hrem, q]; rfl))
      have eu0 : own_upd 0 u0 q1 p2 = (u0 ||| (q1 <<< (p2 &&& 0x3f).toInt64)) := by rw [own_upd, if_pos hk]
      refine ⟨rfl, N3, K6, ?_⟩
      rw [eu0]
      exact f_4
  · have hfar := hk
    show Good p e below _ (s₁.setTop (mkF m 6 #[.val (.ref r0), .val (.long q1), .second, .val (.int p2), .val (.int (p2 / (64 : Int32)))] []))
    refine Good.back (fun _ k => XS.iload X0.here hx rfl (hb hby own_d1_6) rfl k) ?_
    show Good p e below _ (s₁.setTop (mkF m 8 #[.val (.ref r0), .val (.long q1), .second, .val (.int p2), .val (.int (p2 / (64 : Int32)))] [(.int (p2 / (64 : Int32)))]))
    refine Good.back (fun _ k => XS.aloadN X0.here hx rfl (hb hby own_d1_8) rfl rfl k) ?_
    show Good p e below _ (s₁.setTop (mkF m 9 #[.val (.ref r0), .val (.long q1), .second, .val (.int p2), .val (.int (p2 / (64 : Int32)))] [(.ref r0), (.int (p2 / (64 : Int32)))]))
    have fc11 := V0
    obtain ⟨cl11, Ar11, qk11, S11, N11', H11, G11⟩ := fc11
    refine Good.back (X0.arraylength hx (by rw [e0]; exact Ar11.1) (State.isArrayOf_alike hZ.alike Ar11.2.1) (g := (mkF m 9 #[.val (.ref r0), .val (.long q1), .second, .val (.int p2), .val (.int (p2 / (64 : Int32)))] [(.ref r0), (.int (p2 / (64 : Int32)))])) rfl rfl (hb hby own_d1_9)) ?_
    rw [len_of S11 N11']
    show Good p e below _ (s₁.setTop (mkF m 10 #[.val (.ref r0), .val (.long q1), .second, .val (.int p2), .val (.int (p2 / (64 : Int32)))] [(.int (1 : Int32)), (.int (p2 / (64 : Int32)))]))
    refine Good.back (fun _ k => XS.icmpYes X0.here hx rfl (pc0 := 10) (pc' := 57) rfl (hb hby own_d1_10) rfl (flt (by rw [Int32.lt_iff_toInt_lt, hdiv]; show ¬ (_ < (1 : Int)); omega)).2.1 (by decide) (by decide) k) ?_
    show Good p e below _ (s₁.setTop (mkF m 57 #[.val (.ref r0), .val (.long q1), .second, .val (.int p2), .val (.int (p2 / (64 : Int32)))] []))
    obtain ⟨fs12, hr12, hrun12, hended12, hW12, hsame12⟩ := X0.leave (v := none) (fun _ => rfl)
    refine Good.done (X0.returnOut hx Bd.returns (hb hby own_d1_57) hr12) hrun12 hended12 ⟨_, _, rfl, ?_, ⟨_, rfl⟩, hW12, hsame12.mono (by decide) (by decide)⟩
    show Q1_1 Z r0 q1 p2 kk u0 h0 n0 _ s₁.heap _
    rw [e0]
    have eu0 : own_upd 0 u0 q1 p2 = u0 := by rw [own_upd, if_neg (by omega), if_neg (by omega)]
    refine ⟨rfl, N0, KR, ?_⟩
    rw [eu0]
    exact V0
theorem own_d1_39 : decode prog_35_method_7_code 39 = .ok (.aload_n 0, 1) := by decide +kernel
theorem own_d1_40 : decode prog_35_method_7_code 40 = .ok (.iload 4, 2) := by decide +kernel
theorem own_d1_42 : decode prog_35_method_7_code 42 = .ok (.iconst 1, 1) := by decide +kernel
theorem own_d1_43 : decode prog_35_method_7_code 43 = .ok (.iadd, 1) := by decide +kernel
theorem own_d1_44 : decode prog_35_method_7_code 44 = .ok (.dup2, 1) := by decide +kernel
theorem own_d1_45 : decode prog_35_method_7_code 45 = .ok (.laload, 1) := by decide +kernel
theorem own_d1_46 : decode prog_35_method_7_code 46 = .ok (.lload_n 1, 1) := by decide +kernel
theorem own_d1_47 : decode prog_35_method_7_code 47 = .ok (.bipush 64, 2) := by decide +kernel
theorem own_d1_49 : decode prog_35_method_7_code 49 = .ok (.iload_n 3, 1) := by decide +kernel
theorem own_d1_50 : decode prog_35_method_7_code 50 = .ok (.bipush 64, 2) := by decide +kernel
theorem own_d1_52 : decode prog_35_method_7_code 52 = .ok (.irem, 1) := by decide +kernel
theorem own_d1_53 : decode prog_35_method_7_code 53 = .ok (.isub, 1) := by decide +kernel
theorem own_d1_54 : decode prog_35_method_7_code 54 = .ok (.lushr, 1) := by decide +kernel
theorem own_d1_55 : decode prog_35_method_7_code 55 = .ok (.lor, 1) := by decide +kernel
theorem own_d1_56 : decode prog_35_method_7_code 56 = .ok (.lastore, 1) := by decide +kernel
theorem own_ef_1_2 (m : MethodId) (x0 : Addr) (x1 : Int64) (x2 : Int32) : entryFrame m #[(.ref x0), (.long x1), (.int x2)] 5 = mkF m 0 #[.val (.ref x0), .val (.long x1), .second, .val (.int x2), .unset] [] := by first | (simp [entryFrame, mkF, argsToLocals, Value.category]; done) | rfl
def Q1_2 (Z : State) (r0 : Addr) (q1 : Int64) (p2 : Int32) (kk : ClassId) (u0 : Int64) (u1 : Int64) (h0 : Heap) (n0 : Nat) (v : Option Value) (h : Heap) (L : List Loc) : Prop := v = none ∧ Fr n0 L ∧ Keep h0 h [r0] ∧ Arv Z h r0 kk .long (2 : Int32) [(.long (own_upd 0 u0 q1 p2)), (.long (own_upd 1 u1 q1 p2))] (.long (0 : Int64))
set_option maxRecDepth 65536 in
set_option maxHeartbeats 40000000 in
theorem rm1_2 (l : Launch) (Z : State) (a0 : Array Value) (hw : ∀ d ∈ tables_1, d.before a0 Z = true) (ws : List Jvm.Cond) (r0 : Addr) (q1 : Int64) (p2 : Int32) (kk : ClassId) (u0 : Int64) (u1 : Int64) (h0 : Heap) (n0 : Nat) (Z0 : n0 ≤ h0.size) (V0 : Arv Z h0 r0 kk .long (2 : Int32) [(.long u0), (.long u1)] (.long (0 : Int64))) (g0 : n0 ≤ r0) (hst : 0 ≤ p2.toInt) :
    MetFree l (⟨"com/example/fradno/fradno/core/CellSet", "or", "([JJI)V"⟩ : MethodName) (head1 (Jvm.Cond.code (⟨"com/example/fradno/fradno/core/CellSet", "or", "([JJI)V"⟩ : MethodName) prog_35_method_7_code 5 none :: ws) ({ frames := 0, cells := 0, slots := 0, locals := 0 } : Room)) (fun a U => a = #[(.ref r0), (.long q1), (.int p2)] ∧ Z.Warmed39 U.vm ∧ U.heap = h0) (fun _ _ _ _ _ => True) (fun _ U o U' => ∃ v L, o = .returned v ∧ Q1_2 Z r0 q1 p2 kk u0 u1 h0 n0 v U'.heap L ∧ FrameEnd U o U' L ({ frames := 0, cells := 0, slots := 0, locals := 0 } : Room).cells ({ frames := 0, cells := 0, slots := 0, locals := 0 } : Room).slots) := by
  refine MetFree.of_bodySF (plainFor_of_name own_pn1) hisR ?_
  intro p e s m args below meth c s₁ Bd hml0 hP hK
  obtain ⟨rfl, hZ, hh⟩ := hP
  have hx := Bd.exec
  have hby := Bd.bytes
  have hml : c.maxLocals = 5 := hml0
  have hown : s.vm.findClass "com/example/fradno/fradno/core/CellSet" = some m.cls := findClass_of_methodNamed Bd.named
  have hnm := (name_of_methodNamed Bd.named Bd.method).1
  have X0 : Stand p l e ({ frames := 0, cells := 0, slots := 0, locals := 0 } : Room) s m #[(.ref r0), (.long q1), (.int p2)] below meth c s₁ [] 0 0 := Stand.of_body Bd
  have e0 : s₁.heap = h0 := by rw [← hh, Bd.state]; rfl
  have N0 := Fr.nil n0
  have KR : Keep h0 h0 [r0] := Keep.refl h0 _
  show Good p e below (fun o U' => ∃ v L, o = .returned v ∧ Q1_2 Z r0 q1 p2 kk u0 u1 h0 n0 v U'.heap L ∧ FrameEnd s o U' L ({ frames := 0, cells := 0, slots := 0, locals := 0 } : Room).cells ({ frames := 0, cells := 0, slots := 0, locals := 0 } : Room).slots) _
  refine Good.back (S' := s₁.setTop (mkF m 0 #[.val (.ref r0), .val (.long q1), .second, .val (.int p2), .unset] [])) (fun t k => castTop (own_ef_1_2 m r0 q1 p2) k) ?_
  show Good p e below _ (s₁.setTop (mkF m 0 #[.val (.ref r0), .val (.long q1), .second, .val (.int p2), .unset] []))
  refine Good.back (fun _ k => XS.iloadN X0.here hx rfl (hb hby own_d1_0) rfl k) ?_
  show Good p e below _ (s₁.setTop (mkF m 1 #[.val (.ref r0), .val (.long q1), .second, .val (.int p2), .unset] [(.int p2)]))
  refine Good.back (fun _ k => XS.bipush X0.here hx rfl (hb hby own_d1_1) k) ?_
  show Good p e below _ (s₁.setTop (mkF m 3 #[.val (.ref r0), .val (.long q1), .second, .val (.int p2), .unset] [(.int (64 : Int32)), (.int p2)]))
  refine Good.back (fun _ k => XS.idiv X0.here hx rfl (hb hby own_d1_3) rfl (by decide) k) ?_
  show Good p e below _ (s₁.setTop (mkF m 4 #[.val (.ref r0), .val (.long q1), .second, .val (.int p2), .unset] [(.int (p2 / (64 : Int32)))]))
  refine Good.back (fun _ k => XS.istore X0.here hx rfl (hb hby own_d1_4) rfl (l' := #[.val (.ref r0), .val (.long q1), .second, .val (.int p2), .val (.int (p2 / (64 : Int32)))]) rfl k) ?_
  show Good p e below _ (s₁.setTop (mkF m 6 #[.val (.ref r0), .val (.long q1), .second, .val (.int p2), .val (.int (p2 / (64 : Int32)))] []))
  have hdiv : ((p2 / (64 : Int32))).toInt = p2.toInt / 64 := (c_idiv p2 64 64 rfl (by decide)).1 hst
  have hrem := own_rem hst
  rcases (by omega : p2.toInt / 64 = 0 ∨ p2.toInt / 64 = 1 ∨ 2 ≤ p2.toInt / 64) with hk | hk | hk
  · have he : (p2 / (64 : Int32)) = (0 : Int32) := Int32.toInt_inj.mp (by rw [hdiv, hk]; rfl)
    rw [he]
    show Good p e below _ (s₁.setTop (mkF m 6 #[.val (.ref r0), .val (.long q1), .second, .val (.int p2), .val (.int (0 : Int32))] []))
    refine Good.back (fun _ k => XS.iload X0.here hx rfl (hb hby own_d1_6) rfl k) ?_
    show Good p e below _ (s₁.setTop (mkF m 8 #[.val (.ref r0), .val (.long q1), .second, .val (.int p2), .val (.int (0 : Int32))] [(.int (0 : Int32))]))
    refine Good.back (fun _ k => XS.aloadN X0.here hx rfl (hb hby own_d1_8) rfl rfl k) ?_
    show Good p e below _ (s₁.setTop (mkF m 9 #[.val (.ref r0), .val (.long q1), .second, .val (.int p2), .val (.int (0 : Int32))] [(.ref r0), (.int (0 : Int32))]))
    have fc1 := V0
    obtain ⟨cl1, Ar1, qk1, S1, N1', H1, G1⟩ := fc1
    refine Good.back (X0.arraylength hx (by rw [e0]; exact Ar1.1) (State.isArrayOf_alike hZ.alike Ar1.2.1) (g := (mkF m 9 #[.val (.ref r0), .val (.long q1), .second, .val (.int p2), .val (.int (0 : Int32))] [(.ref r0), (.int (0 : Int32))])) rfl rfl (hb hby own_d1_9)) ?_
    rw [len_of S1 N1']
    show Good p e below _ (s₁.setTop (mkF m 10 #[.val (.ref r0), .val (.long q1), .second, .val (.int p2), .val (.int (0 : Int32))] [(.int (2 : Int32)), (.int (0 : Int32))]))
    refine Good.back (fun _ k => XS.icmpNo X0.here hx rfl (hb hby own_d1_10) rfl (tlt (by decide : ((0 : Int32) < (2 : Int32)))).2.1 k) ?_
    show Good p e below _ (s₁.setTop (mkF m 13 #[.val (.ref r0), .val (.long q1), .second, .val (.int p2), .val (.int (0 : Int32))] []))
    refine Good.back (fun _ k => XS.aloadN X0.here hx rfl (hb hby own_d1_13) rfl rfl k) ?_
    show Good p e below _ (s₁.setTop (mkF m 14 #[.val (.ref r0), .val (.long q1), .second, .val (.int p2), .val (.int (0 : Int32))] [(.ref r0)]))
    refine Good.back (fun _ k => XS.iload X0.here hx rfl (hb hby own_d1_14) rfl k) ?_
    show Good p e below _ (s₁.setTop (mkF m 16 #[.val (.ref r0), .val (.long q1), .second, .val (.int p2), .val (.int (0 : Int32))] [(.int (0 : Int32)), (.ref r0)]))
    refine Good.back (fun _ k => Jvm.Free.XT.dup2 X0.here hx rfl (hb hby own_d1_16) rfl rfl rfl k) ?_
    show Good p e below _ (s₁.setTop (mkF m 17 #[.val (.ref r0), .val (.long q1), .second, .val (.int p2), .val (.int (0 : Int32))] [(.int (0 : Int32)), (.ref r0), (.int (0 : Int32)), (.ref r0)]))
    have fc2 := V0
    obtain ⟨cl2, Ar2, qk2, S2, N2', H2, G2⟩ := fc2
    have hin2 : ¬ ((0 : Int32) < 0 ∨ cl2.slots.size ≤ ((0 : Int32)).toNatClampNeg) := inb_of S2 ⟨by decide, by decide⟩
    have hat2 : cl2.slots[((0 : Int32)).toNatClampNeg]? = some (.long u0) := Has.at H2 hin2 rfl
    refine Good.back (X0.laload hx (j := (0 : Int32)) (v := (.long u0)) (by rw [e0]; exact Ar2.1) (State.isArrayOf_alike hZ.alike Ar2.2.1) Ar2.2.2 hin2 hat2 (g := (mkF m 17 #[.val (.ref r0), .val (.long q1), .second, .val (.int p2), .val (.int (0 : Int32))] [(.int (0 : Int32)), (.ref r0), (.int (0 : Int32)), (.ref r0)])) rfl rfl (hb hby own_d1_17)) ?_
    show Good p e below _ (s₁.setTop (mkF m 18 #[.val (.ref r0), .val (.long q1), .second, .val (.int p2), .val (.int (0 : Int32))] [(.long u0), (.int (0 : Int32)), (.ref r0)]))
    refine Good.back (fun _ k => XS.lloadN X0.here hx rfl (hb hby own_d1_18) rfl k) ?_
    show Good p e below _ (s₁.setTop (mkF m 19 #[.val (.ref r0), .val (.long q1), .second, .val (.int p2), .val (.int (0 : Int32))] [(.long q1), (.long u0), (.int (0 : Int32)), (.ref r0)]))
    refine Good.back (fun _ k => XS.iloadN X0.here hx rfl (hb hby own_d1_19) rfl k) ?_
    show Good p e below _ (s₁.setTop (mkF m 20 #[.val (.ref r0), .val (.long q1), .second, .val (.int p2), .val (.int (0 : Int32))] [(.int p2), (.long q1), (.long u0), (.int (0 : Int32)), (.ref r0)]))
    refine Good.back (fun _ k => XS.lshl X0.here hx rfl (hb hby own_d1_20) rfl k) ?_
    show Good p e below _ (s₁.setTop (mkF m 21 #[.val (.ref r0), .val (.long q1), .second, .val (.int p2), .val (.int (0 : Int32))] [(.long (q1 <<< (p2 &&& 0x3f).toInt64)), (.long u0), (.int (0 : Int32)), (.ref r0)]))
    refine Good.back (fun _ k => XS.lor X0.here hx rfl (hb hby own_d1_21) rfl k) ?_
    show Good p e below _ (s₁.setTop (mkF m 22 #[.val (.ref r0), .val (.long q1), .second, .val (.int p2), .val (.int (0 : Int32))] [(.long (u0 ||| (q1 <<< (p2 &&& 0x3f).toInt64))), (.int (0 : Int32)), (.ref r0)]))
    have fc3 := V0
    obtain ⟨cl3, Ar3, qk3, S3, N3', H3, G3⟩ := fc3
    have hin3 : ¬ ((0 : Int32) < 0 ∨ cl3.slots.size ≤ ((0 : Int32)).toNatClampNeg) := inb_of S3 ⟨by decide, by decide⟩
    obtain ⟨T3, h3, X3, e3, W3, st3⟩ := stJ X0 hx hZ e0 Ar3 (j := (0 : Int32)) hin3 (g := (mkF m 22 #[.val (.ref r0), .val (.long q1), .second, .val (.int p2), .val (.int (0 : Int32))] [(.long (u0 ||| (q1 <<< (p2 &&& 0x3f).toInt64))), (.int (0 : Int32)), (.ref r0)])) rfl rfl (hb hby own_d1_22)
    refine Good.back st3 ?_
    have f_4 : Arv Z h3 r0 kk .long (2 : Int32) [(.long (u0 ||| (q1 <<< (p2 &&& 0x3f).toInt64))), (.long u1)] (.long (0 : Int64)) := Arv.set Ar3 qk3 S3 N3' H3 G3 rfl W3 0 rfl (Nat.le_of_ble_eq_true rfl)
    have N3 := Fr.snoc X3 N0 g0
    have Z5 : n0 ≤ h3.size := Nat.le_trans Z0 (Keep.of_wr W3).1
    have K6 : Keep h0 h3 [r0] := KR.wr W3 (Or.inl (List.mem_of_getElem? (i := 0) rfl))
    show Good p e below _ (T3.setTop (mkF m 23 #[.val (.ref r0), .val (.long q1), .second, .val (.int p2), .val (.int (0 : Int32))] []))
    refine Good.back (fun _ k => XS.iloadN X3.here hx rfl (hb hby own_d1_23) rfl k) ?_
    show Good p e below _ (T3.setTop (mkF m 24 #[.val (.ref r0), .val (.long q1), .second, .val (.int p2), .val (.int (0 : Int32))] [(.int p2)]))
    refine Good.back (fun _ k => XS.bipush X3.here hx rfl (hb hby own_d1_24) k) ?_
    show Good p e below _ (T3.setTop (mkF m 26 #[.val (.ref r0), .val (.long q1), .second, .val (.int p2), .val (.int (0 : Int32))] [(.int (64 : Int32)), (.int p2)]))
    refine Good.back (fun _ k => iremM (g := (mkF m 26 #[.val (.ref r0), .val (.long q1), .second, .val (.int p2), .val (.int (0 : Int32))] [(.int (64 : Int32)), (.int p2)])) X3 hx rfl (hb hby own_d1_26) rfl (by decide) k) ?_
    show Good p e below _ (T3.setTop (mkF m 27 #[.val (.ref r0), .val (.long q1), .second, .val (.int p2), .val (.int (0 : Int32))] [(.int (p2 % (64 : Int32)))]))
    by_cases hc27_7 : (p2 % (64 : Int32)) = (0 : Int32)
    · refine Good.back (fun _ k => XS.ifYes X3.here hx rfl (pc0 := 27) (pc' := 57) rfl (hb hby own_d1_27) rfl ((if0 _ _).trans (teq hc27_7).1) (by decide) (by decide) k) ?_
      show Good p e below _ (T3.setTop (mkF m 57 #[.val (.ref r0), .val (.long q1), .second, .val (.int p2), .val (.int (0 : Int32))] []))
      obtain ⟨fs8, hr8, hrun8, hended8, hW8, hsame8⟩ := X3.leave (v := none) (fun _ => rfl)
      refine Good.done (X3.returnOut hx Bd.returns (hb hby own_d1_57) hr8) hrun8 hended8 ⟨_, _, rfl, ?_, ⟨_, rfl⟩, hW8, hsame8.mono (by decide) (by decide)⟩
      show Q1_2 Z r0 q1 p2 kk u0 u1 h0 n0 _ T3.heap _
      rw [e3]
      have hr0 : p2.toInt % 64 = 0 := by rw [← hrem, hc27_7]; rfl
      have eu0 : own_upd 0 u0 q1 p2 = (u0 ||| (q1 <<< (p2 &&& 0x3f).toInt64)) := by rw [own_upd, if_pos hk]
      have eu1 : own_upd 1 u1 q1 p2 = u1 := by rw [own_upd, if_neg (by omega), if_neg (by omega)]
      refine ⟨rfl, N3, K6, ?_⟩
      rw [eu0, eu1]
      exact f_4
    · refine Good.back (fun _ k => XS.ifNo X3.here hx rfl (hb hby own_d1_27) rfl ((if0 _ _).trans (feq hc27_7).1) k) ?_
      show Good p e below _ (T3.setTop (mkF m 30 #[.val (.ref r0), .val (.long q1), .second, .val (.int p2), .val (.int (0 : Int32))] []))
      refine Good.back (fun _ k => XS.iload X3.here hx rfl (hb hby own_d1_30) rfl k) ?_
      show Good p e below _ (T3.setTop (mkF m 32 #[.val (.ref r0), .val (.long q1), .second, .val (.int p2), .val (.int (0 : Int32))] [(.int (0 : Int32))]))
      refine Good.back (fun _ k => XS.iconst X3.here hx rfl (hb hby own_d1_32) k) ?_
      show Good p e below _ (T3.setTop (mkF m 33 #[.val (.ref r0), .val (.long q1), .second, .val (.int p2), .val (.int (0 : Int32))] [(.int (1 : Int32)), (.int (0 : Int32))]))
      refine Good.back (fun _ k => XS.iadd X3.here hx rfl (hb hby own_d1_33) rfl k) ?_
      show Good p e below _ (T3.setTop (mkF m 34 #[.val (.ref r0), .val (.long q1), .second, .val (.int p2), .val (.int (0 : Int32))] [(.int ((0 : Int32) + (1 : Int32)))]))
      rw [show (((0 : Int32) + (1 : Int32)) : Int32) = (1 : Int32) from by decide]
      show Good p e below _ (T3.setTop (mkF m 34 #[.val (.ref r0), .val (.long q1), .second, .val (.int p2), .val (.int (0 : Int32))] [(.int (1 : Int32))]))
      refine Good.back (fun _ k => XS.aloadN X3.here hx rfl (hb hby own_d1_34) rfl rfl k) ?_
      show Good p e below _ (T3.setTop (mkF m 35 #[.val (.ref r0), .val (.long q1), .second, .val (.int p2), .val (.int (0 : Int32))] [(.ref r0), (.int (1 : Int32))]))
      have fc9 := f_4
      obtain ⟨cl9, Ar9, qk9, S9, N9', H9, G9⟩ := fc9
      refine Good.back (X3.arraylength hx (by rw [e3]; exact Ar9.1) (State.isArrayOf_alike hZ.alike Ar9.2.1) (g := (mkF m 35 #[.val (.ref r0), .val (.long q1), .second, .val (.int p2), .val (.int (0 : Int32))] [(.ref r0), (.int (1 : Int32))])) rfl rfl (hb hby own_d1_35)) ?_
      rw [len_of S9 N9']
      show Good p e below _ (T3.setTop (mkF m 36 #[.val (.ref r0), .val (.long q1), .second, .val (.int p2), .val (.int (0 : Int32))] [(.int (2 : Int32)), (.int (1 : Int32))]))
      refine Good.back (fun _ k => XS.icmpNo X3.here hx rfl (hb hby own_d1_36) rfl (tlt (by decide : ((1 : Int32) < (2 : Int32)))).2.1 k) ?_
      show Good p e below _ (T3.setTop (mkF m 39 #[.val (.ref r0), .val (.long q1), .second, .val (.int p2), .val (.int (0 : Int32))] []))
      refine Good.back (fun _ k => XS.aloadN X3.here hx rfl (hb hby own_d1_39) rfl rfl k) ?_
      show Good p e below _ (T3.setTop (mkF m 40 #[.val (.ref r0), .val (.long q1), .second, .val (.int p2), .val (.int (0 : Int32))] [(.ref r0)]))
      refine Good.back (fun _ k => XS.iload X3.here hx rfl (hb hby own_d1_40) rfl k) ?_
      show Good p e below _ (T3.setTop (mkF m 42 #[.val (.ref r0), .val (.long q1), .second, .val (.int p2), .val (.int (0 : Int32))] [(.int (0 : Int32)), (.ref r0)]))
      refine Good.back (fun _ k => XS.iconst X3.here hx rfl (hb hby own_d1_42) k) ?_
      show Good p e below _ (T3.setTop (mkF m 43 #[.val (.ref r0), .val (.long q1), .second, .val (.int p2), .val (.int (0 : Int32))] [(.int (1 : Int32)), (.int (0 : Int32)), (.ref r0)]))
      refine Good.back (fun _ k => XS.iadd X3.here hx rfl (hb hby own_d1_43) rfl k) ?_
      show Good p e below _ (T3.setTop (mkF m 44 #[.val (.ref r0), .val (.long q1), .second, .val (.int p2), .val (.int (0 : Int32))] [(.int ((0 : Int32) + (1 : Int32))), (.ref r0)]))
      rw [show (((0 : Int32) + (1 : Int32)) : Int32) = (1 : Int32) from by decide]
      show Good p e below _ (T3.setTop (mkF m 44 #[.val (.ref r0), .val (.long q1), .second, .val (.int p2), .val (.int (0 : Int32))] [(.int (1 : Int32)), (.ref r0)]))
      refine Good.back (fun _ k => Jvm.Free.XT.dup2 X3.here hx rfl (hb hby own_d1_44) rfl rfl rfl k) ?_
      show Good p e below _ (T3.setTop (mkF m 45 #[.val (.ref r0), .val (.long q1), .second, .val (.int p2), .val (.int (0 : Int32))] [(.int (1 : Int32)), (.ref r0), (.int (1 : Int32)), (.ref r0)]))
      have fc10 := f_4
      obtain ⟨cl10, Ar10, qk10, S10, N10', H10, G10⟩ := fc10
      have hin10 : ¬ ((1 : Int32) < 0 ∨ cl10.slots.size ≤ ((1 : Int32)).toNatClampNeg) := inb_of S10 ⟨by decide, by decide⟩
      have hat10 : cl10.slots[((1 : Int32)).toNatClampNeg]? = some (.long u1) := Has.at H10 hin10 rfl
      refine Good.back (X3.laload hx (j := (1 : Int32)) (v := (.long u1)) (by rw [e3]; exact Ar10.1) (State.isArrayOf_alike hZ.alike Ar10.2.1) Ar10.2.2 hin10 hat10 (g := (mkF m 45 #[.val (.ref r0), .val (.long q1), .second, .val (.int p2), .val (.int (0 : Int32))] [(.int (1 : Int32)), (.ref r0), (.int (1 : Int32)), (.ref r0)])) rfl rfl (hb hby own_d1_45)) ?_
      show Good p e below _ (T3.setTop (mkF m 46 #[.val (.ref r0), .val (.long q1), .second, .val (.int p2), .val (.int (0 : Int32))] [(.long u1), (.int (1 : Int32)), (.ref r0)]))
      refine Good.back (fun _ k => XS.lloadN X3.here hx rfl (hb hby own_d1_46) rfl k) ?_
      show Good p e below _ (T3.setTop (mkF m 47 #[.val (.ref r0), .val (.long q1), .second, .val (.int p2), .val (.int (0 : Int32))] [(.long q1), (.long u1), (.int (1 : Int32)), (.ref r0)]))
      refine Good.back (fun _ k => XS.bipush X3.here hx rfl (hb hby own_d1_47) k) ?_
      show Good p e below _ (T3.setTop (mkF m 49 #[.val (.ref r0), .val (.long q1), .second, .val (.int p2), .val (.int (0 : Int32))] [(.int (64 : Int32)), (.long q1), (.long u1), (.int (1 : Int32)), (.ref r0)]))
      refine Good.back (fun _ k => XS.iloadN X3.here hx rfl (hb hby own_d1_49) rfl k) ?_
      show Good p e below _ (T3.setTop (mkF m 50 #[.val (.ref r0), .val (.long q1), .second, .val (.int p2), .val (.int (0 : Int32))] [(.int p2), (.int (64 : Int32)), (.long q1), (.long u1), (.int (1 : Int32)), (.ref r0)]))
      refine Good.back (fun _ k => XS.bipush X3.here hx rfl (hb hby own_d1_50) k) ?_
      show Good p e below _ (T3.setTop (mkF m 52 #[.val (.ref r0), .val (.long q1), .second, .val (.int p2), .val (.int (0 : Int32))] [(.int (64 : Int32)), (.int p2), (.int (64 : Int32)), (.long q1), (.long u1), (.int (1 : Int32)), (.ref r0)]))
      refine Good.back (fun _ k => iremM (g := (mkF m 52 #[.val (.ref r0), .val (.long q1), .second, .val (.int p2), .val (.int (0 : Int32))] [(.int (64 : Int32)), (.int p2), (.int (64 : Int32)), (.long q1), (.long u1), (.int (1 : Int32)), (.ref r0)])) X3 hx rfl (hb hby own_d1_52) rfl (by decide) k) ?_
      show Good p e below _ (T3.setTop (mkF m 53 #[.val (.ref r0), .val (.long q1), .second, .val (.int p2), .val (.int (0 : Int32))] [(.int (p2 % (64 : Int32))), (.int (64 : Int32)), (.long q1), (.long u1), (.int (1 : Int32)), (.ref r0)]))
      refine Good.back (fun _ k => XS.isub X3.here hx rfl (hb hby own_d1_53) rfl k) ?_
      show Good p e below _ (T3.setTop (mkF m 54 #[.val (.ref r0), .val (.long q1), .second, .val (.int p2), .val (.int (0 : Int32))] [(.int ((64 : Int32) - (p2 % (64 : Int32)))), (.long q1), (.long u1), (.int (1 : Int32)), (.ref r0)]))
      refine Good.back (fun _ k => XS.lushr X3.here hx rfl (hb hby own_d1_54) rfl k) ?_
      show Good p e below _ (T3.setTop (mkF m 55 #[.val (.ref r0), .val (.long q1), .second, .val (.int p2), .val (.int (0 : Int32))] [(.long ((q1.toUInt64 >>> (((64 : Int32) - (p2 % (64 : Int32))) &&& 0x3f).toInt64.toUInt64).toInt64)), (.long u1), (.int (1 : Int32)), (.ref r0)]))
      refine Good.back (fun _ k => XS.lor X3.here hx rfl (hb hby own_d1_55) rfl k) ?_
      show Good p e below _ (T3.setTop (mkF m 56 #[.val (.ref r0), .val (.long q1), .second, .val (.int p2), .val (.int (0 : Int32))] [(.long (u1 ||| ((q1.toUInt64 >>> (((64 : Int32) - (p2 % (64 : Int32))) &&& 0x3f).toInt64.toUInt64).toInt64))), (.int (1 : Int32)), (.ref r0)]))
      have fc11 := f_4
      obtain ⟨cl11, Ar11, qk11, S11, N11', H11, G11⟩ := fc11
      have hin11 : ¬ ((1 : Int32) < 0 ∨ cl11.slots.size ≤ ((1 : Int32)).toNatClampNeg) := inb_of S11 ⟨by decide, by decide⟩
      obtain ⟨T11, h11, X11, e11, W11, st11⟩ := stJ X3 hx hZ e3 Ar11 (j := (1 : Int32)) hin11 (g := (mkF m 56 #[.val (.ref r0), .val (.long q1), .second, .val (.int p2), .val (.int (0 : Int32))] [(.long (u1 ||| ((q1.toUInt64 >>> (((64 : Int32) - (p2 % (64 : Int32))) &&& 0x3f).toInt64.toUInt64).toInt64))), (.int (1 : Int32)), (.ref r0)])) rfl rfl (hb hby own_d1_56)
      refine Good.back st11 ?_
      have f_12 : Arv Z h11 r0 kk .long (2 : Int32) [(.long (u0 ||| (q1 <<< (p2 &&& 0x3f).toInt64))), (.long (u1 ||| ((q1.toUInt64 >>> (((64 : Int32) - (p2 % (64 : Int32))) &&& 0x3f).toInt64.toUInt64).toInt64)))] (.long (0 : Int64)) := Arv.set Ar11 qk11 S11 N11' H11 G11 rfl W11 1 rfl (Nat.le_of_ble_eq_true rfl)
      have N11 := Fr.snoc X11 N3 g0
      have Z13 : n0 ≤ h11.size := Nat.le_trans Z5 (Keep.of_wr W11).1
      have K14 : Keep h0 h11 [r0] := K6.wr W11 (Or.inl (List.mem_of_getElem? (i := 0) rfl))
      show Good p e below _ (T11.setTop (mkF m 57 #[.val (.ref r0), .val (.long q1), .second, .val (.int p2), .val (.int (0 : Int32))] []))
      obtain ⟨fs15, hr15, hrun15, hended15, hW15, hsame15⟩ := X11.leave (v := none) (fun _ => rfl)
      refine Good.done (X11.returnOut hx Bd.returns (hb hby own_d1_57) hr15) hrun15 hended15 ⟨_, _, rfl, ?_, ⟨_, rfl⟩, hW15, hsame15.mono (by decide) (by decide)⟩
      show Q1_2 Z r0 q1 p2 kk u0 u1 h0 n0 _ T11.heap _
      rw [e11]
      have hr0 : ¬ p2.toInt % 64 = 0 := fun q => hc27_7 (Int32.toInt_inj.mp (by rw [hrem, q]; rfl))
      have eu0 : own_upd 0 u0 q1 p2 = (u0 ||| (q1 <<< (p2 &&& 0x3f).toInt64)) := by rw [own_upd, if_pos hk]
      have eu1 : own_upd 1 u1 q1 p2 = (u1 ||| ((q1.toUInt64 >>> (((64 : Int32) - (p2 % (64 : Int32))) &&& 0x3f).toInt64.toUInt64).toInt64)) := by rw [own_upd, if_neg (by omega), if_pos (by omega)]
      refine ⟨rfl, N11, K14, ?_⟩
      rw [eu0, eu1]
      exact f_12
  · have he : (p2 / (64 : Int32)) = (1 : Int32) := Int32.toInt_inj.mp (by rw [hdiv, hk]; rfl)
    rw [he]
    show Good p e below _ (s₁.setTop (mkF m 6 #[.val (.ref r0), .val (.long q1), .second, .val (.int p2), .val (.int (1 : Int32))] []))
    refine Good.back (fun _ k => XS.iload X0.here hx rfl (hb hby own_d1_6) rfl k) ?_
    show Good p e below _ (s₁.setTop (mkF m 8 #[.val (.ref r0), .val (.long q1), .second, .val (.int p2), .val (.int (1 : Int32))] [(.int (1 : Int32))]))
    refine Good.back (fun _ k => XS.aloadN X0.here hx rfl (hb hby own_d1_8) rfl rfl k) ?_
    show Good p e below _ (s₁.setTop (mkF m 9 #[.val (.ref r0), .val (.long q1), .second, .val (.int p2), .val (.int (1 : Int32))] [(.ref r0), (.int (1 : Int32))]))
    have fc16 := V0
    obtain ⟨cl16, Ar16, qk16, S16, N16', H16, G16⟩ := fc16
    refine Good.back (X0.arraylength hx (by rw [e0]; exact Ar16.1) (State.isArrayOf_alike hZ.alike Ar16.2.1) (g := (mkF m 9 #[.val (.ref r0), .val (.long q1), .second, .val (.int p2), .val (.int (1 : Int32))] [(.ref r0), (.int (1 : Int32))])) rfl rfl (hb hby own_d1_9)) ?_
    rw [len_of S16 N16']
    show Good p e below _ (s₁.setTop (mkF m 10 #[.val (.ref r0), .val (.long q1), .second, .val (.int p2), .val (.int (1 : Int32))] [(.int (2 : Int32)), (.int (1 : Int32))]))
    refine Good.back (fun _ k => XS.icmpNo X0.here hx rfl (hb hby own_d1_10) rfl (tlt (by decide : ((1 : Int32) < (2 : Int32)))).2.1 k) ?_
    show Good p e below _ (s₁.setTop (mkF m 13 #[.val (.ref r0), .val (.long q1), .second, .val (.int p2), .val (.int (1 : Int32))] []))
    refine Good.back (fun _ k => XS.aloadN X0.here hx rfl (hb hby own_d1_13) rfl rfl k) ?_
    show Good p e below _ (s₁.setTop (mkF m 14 #[.val (.ref r0), .val (.long q1), .second, .val (.int p2), .val (.int (1 : Int32))] [(.ref r0)]))
    refine Good.back (fun _ k => XS.iload X0.here hx rfl (hb hby own_d1_14) rfl k) ?_
    show Good p e below _ (s₁.setTop (mkF m 16 #[.val (.ref r0), .val (.long q1), .second, .val (.int p2), .val (.int (1 : Int32))] [(.int (1 : Int32)), (.ref r0)]))
    refine Good.back (fun _ k => Jvm.Free.XT.dup2 X0.here hx rfl (hb hby own_d1_16) rfl rfl rfl k) ?_
    show Good p e below _ (s₁.setTop (mkF m 17 #[.val (.ref r0), .val (.long q1), .second, .val (.int p2), .val (.int (1 : Int32))] [(.int (1 : Int32)), (.ref r0), (.int (1 : Int32)), (.ref r0)]))
    have fc17 := V0
    obtain ⟨cl17, Ar17, qk17, S17, N17', H17, G17⟩ := fc17
    have hin17 : ¬ ((1 : Int32) < 0 ∨ cl17.slots.size ≤ ((1 : Int32)).toNatClampNeg) := inb_of S17 ⟨by decide, by decide⟩
    have hat17 : cl17.slots[((1 : Int32)).toNatClampNeg]? = some (.long u1) := Has.at H17 hin17 rfl
    refine Good.back (X0.laload hx (j := (1 : Int32)) (v := (.long u1)) (by rw [e0]; exact Ar17.1) (State.isArrayOf_alike hZ.alike Ar17.2.1) Ar17.2.2 hin17 hat17 (g := (mkF m 17 #[.val (.ref r0), .val (.long q1), .second, .val (.int p2), .val (.int (1 : Int32))] [(.int (1 : Int32)), (.ref r0), (.int (1 : Int32)), (.ref r0)])) rfl rfl (hb hby own_d1_17)) ?_
    show Good p e below _ (s₁.setTop (mkF m 18 #[.val (.ref r0), .val (.long q1), .second, .val (.int p2), .val (.int (1 : Int32))] [(.long u1), (.int (1 : Int32)), (.ref r0)]))
    refine Good.back (fun _ k => XS.lloadN X0.here hx rfl (hb hby own_d1_18) rfl k) ?_
    show Good p e below _ (s₁.setTop (mkF m 19 #[.val (.ref r0), .val (.long q1), .second, .val (.int p2), .val (.int (1 : Int32))] [(.long q1), (.long u1), (.int (1 : Int32)), (.ref r0)]))
    refine Good.back (fun _ k => XS.iloadN X0.here hx rfl (hb hby own_d1_19) rfl k) ?_
    show Good p e below _ (s₁.setTop (mkF m 20 #[.val (.ref r0), .val (.long q1), .second, .val (.int p2), .val (.int (1 : Int32))] [(.int p2), (.long q1), (.long u1), (.int (1 : Int32)), (.ref r0)]))
    refine Good.back (fun _ k => XS.lshl X0.here hx rfl (hb hby own_d1_20) rfl k) ?_
    show Good p e below _ (s₁.setTop (mkF m 21 #[.val (.ref r0), .val (.long q1), .second, .val (.int p2), .val (.int (1 : Int32))] [(.long (q1 <<< (p2 &&& 0x3f).toInt64)), (.long u1), (.int (1 : Int32)), (.ref r0)]))
    refine Good.back (fun _ k => XS.lor X0.here hx rfl (hb hby own_d1_21) rfl k) ?_
    show Good p e below _ (s₁.setTop (mkF m 22 #[.val (.ref r0), .val (.long q1), .second, .val (.int p2), .val (.int (1 : Int32))] [(.long (u1 ||| (q1 <<< (p2 &&& 0x3f).toInt64))), (.int (1 : Int32)), (.ref r0)]))
    have fc18 := V0
    obtain ⟨cl18, Ar18, qk18, S18, N18', H18, G18⟩ := fc18
    have hin18 : ¬ ((1 : Int32) < 0 ∨ cl18.slots.size ≤ ((1 : Int32)).toNatClampNeg) := inb_of S18 ⟨by decide, by decide⟩
    obtain ⟨T18, h18, X18, e18, W18, st18⟩ := stJ X0 hx hZ e0 Ar18 (j := (1 : Int32)) hin18 (g := (mkF m 22 #[.val (.ref r0), .val (.long q1), .second, .val (.int p2), .val (.int (1 : Int32))] [(.long (u1 ||| (q1 <<< (p2 &&& 0x3f).toInt64))), (.int (1 : Int32)), (.ref r0)])) rfl rfl (hb hby own_d1_22)
    refine Good.back st18 ?_
    have f_19 : Arv Z h18 r0 kk .long (2 : Int32) [(.long u0), (.long (u1 ||| (q1 <<< (p2 &&& 0x3f).toInt64)))] (.long (0 : Int64)) := Arv.set Ar18 qk18 S18 N18' H18 G18 rfl W18 1 rfl (Nat.le_of_ble_eq_true rfl)
    have N18 := Fr.snoc X18 N0 g0
    have Z20 : n0 ≤ h18.size := Nat.le_trans Z0 (Keep.of_wr W18).1
    have K21 : Keep h0 h18 [r0] := KR.wr W18 (Or.inl (List.mem_of_getElem? (i := 0) rfl))
    show Good p e below _ (T18.setTop (mkF m 23 #[.val (.ref r0), .val (.long q1), .second, .val (.int p2), .val (.int (1 : Int32))] []))
    refine Good.back (fun _ k => XS.iloadN X18.here hx rfl (hb hby own_d1_23) rfl k) ?_
    show Good p e below _ (T18.setTop (mkF m 24 #[.val (.ref r0), .val (.long q1), .second, .val (.int p2), .val (.int (1 : Int32))] [(.int p2)]))
    refine Good.back (fun _ k => XS.bipush X18.here hx rfl (hb hby own_d1_24) k) ?_
    show Good p e below _ (T18.setTop (mkF m 26 #[.val (.ref r0), .val (.long q1), .second, .val (.int p2), .val (.int (1 : Int32))] [(.int (64 : Int32)), (.int p2)]))
    refine Good.back (fun _ k => iremM (g := (mkF m 26 #[.val (.ref r0), .val (.long q1), .second, .val (.int p2), .val (.int (1 : Int32))] [(.int (64 : Int32)), (.int p2)])) X18 hx rfl (hb hby own_d1_26) rfl (by decide) k) ?_
    show Good p e below _ (T18.setTop (mkF m 27 #[.val (.ref r0), .val (.long q1), .second, .val (.int p2), .val (.int (1 : Int32))] [(.int (p2 % (64 : Int32)))]))
    by_cases hc27_22 : (p2 % (64 : Int32)) = (0 : Int32)
    · refine Good.back (fun _ k => XS.ifYes X18.here hx rfl (pc0 := 27) (pc' := 57) rfl (hb hby own_d1_27) rfl ((if0 _ _).trans (teq hc27_22).1) (by decide) (by decide) k) ?_
      show Good p e below _ (T18.setTop (mkF m 57 #[.val (.ref r0), .val (.long q1), .second, .val (.int p2), .val (.int (1 : Int32))] []))
      obtain ⟨fs23, hr23, hrun23, hended23, hW23, hsame23⟩ := X18.leave (v := none) (fun _ => rfl)
      refine Good.done (X18.returnOut hx Bd.returns (hb hby own_d1_57) hr23) hrun23 hended23 ⟨_, _, rfl, ?_, ⟨_, rfl⟩, hW23, hsame23.mono (by decide) (by decide)⟩
      show Q1_2 Z r0 q1 p2 kk u0 u1 h0 n0 _ T18.heap _
      rw [e18]
      have hr0 : p2.toInt % 64 = 0 := by rw [← hrem, hc27_22]; rfl
      have eu0 : own_upd 0 u0 q1 p2 = u0 := by rw [own_upd, if_neg (by omega), if_neg (by omega)]
      have eu1 : own_upd 1 u1 q1 p2 = (u1 ||| (q1 <<< (p2 &&& 0x3f).toInt64)) := by rw [own_upd, if_pos hk]
      refine ⟨rfl, N18, K21, ?_⟩
      rw [eu0, eu1]
      exact f_19
    · refine Good.back (fun _ k => XS.ifNo X18.here hx rfl (hb hby own_d1_27) rfl ((if0 _ _).trans (feq hc27_22).1) k) ?_
      show Good p e below _ (T18.setTop (mkF m 30 #[.val (.ref r0), .val (.long q1), .second, .val (.int p2), .val (.int (1 : Int32))] []))
      refine Good.back (fun _ k => XS.iload X18.here hx rfl (hb hby own_d1_30) rfl k) ?_
      show Good p e below _ (T18.setTop (mkF m 32 #[.val (.ref r0), .val (.long q1), .second, .val (.int p2), .val (.int (1 : Int32))] [(.int (1 : Int32))]))
      refine Good.back (fun _ k => XS.iconst X18.here hx rfl (hb hby own_d1_32) k) ?_
      show Good p e below _ (T18.setTop (mkF m 33 #[.val (.ref r0), .val (.long q1), .second, .val (.int p2), .val (.int (1 : Int32))] [(.int (1 : Int32)), (.int (1 : Int32))]))
      refine Good.back (fun _ k => XS.iadd X18.here hx rfl (hb hby own_d1_33) rfl k) ?_
      show Good p e below _ (T18.setTop (mkF m 34 #[.val (.ref r0), .val (.long q1), .second, .val (.int p2), .val (.int (1 : Int32))] [(.int ((1 : Int32) + (1 : Int32)))]))
      rw [show (((1 : Int32) + (1 : Int32)) : Int32) = (2 : Int32) from by decide]
      show Good p e below _ (T18.setTop (mkF m 34 #[.val (.ref r0), .val (.long q1), .second, .val (.int p2), .val (.int (1 : Int32))] [(.int (2 : Int32))]))
      refine Good.back (fun _ k => XS.aloadN X18.here hx rfl (hb hby own_d1_34) rfl rfl k) ?_
      show Good p e below _ (T18.setTop (mkF m 35 #[.val (.ref r0), .val (.long q1), .second, .val (.int p2), .val (.int (1 : Int32))] [(.ref r0), (.int (2 : Int32))]))
      have fc24 := f_19
      obtain ⟨cl24, Ar24, qk24, S24, N24', H24, G24⟩ := fc24
      refine Good.back (X18.arraylength hx (by rw [e18]; exact Ar24.1) (State.isArrayOf_alike hZ.alike Ar24.2.1) (g := (mkF m 35 #[.val (.ref r0), .val (.long q1), .second, .val (.int p2), .val (.int (1 : Int32))] [(.ref r0), (.int (2 : Int32))])) rfl rfl (hb hby own_d1_35)) ?_
      rw [len_of S24 N24']
      show Good p e below _ (T18.setTop (mkF m 36 #[.val (.ref r0), .val (.long q1), .second, .val (.int p2), .val (.int (1 : Int32))] [(.int (2 : Int32)), (.int (2 : Int32))]))
      refine Good.back (fun _ k => XS.icmpYes X18.here hx rfl (pc0 := 36) (pc' := 57) rfl (hb hby own_d1_36) rfl (flt (by decide : ¬ ((2 : Int32) < (2 : Int32)))).2.1 (by decide) (by decide) k) ?_
      show Good p e below _ (T18.setTop (mkF m 57 #[.val (.ref r0), .val (.long q1), .second, .val (.int p2), .val (.int (1 : Int32))] []))
      obtain ⟨fs25, hr25, hrun25, hended25, hW25, hsame25⟩ := X18.leave (v := none) (fun _ => rfl)
      refine Good.done (X18.returnOut hx Bd.returns (hb hby own_d1_57) hr25) hrun25 hended25 ⟨_, _, rfl, ?_, ⟨_, rfl⟩, hW25, hsame25.mono (by decide) (by decide)⟩
      show Q1_2 Z r0 q1 p2 kk u0 u1 h0 n0 _ T18.heap _
      rw [e18]
      have hr0 : ¬ p2.toInt % 64 = 0 := fun q => hc27_22 (Int32.toInt_inj.mp (by rw [hrem, q]; rfl))
      have eu0 : own_upd 0 u0 q1 p2 = u0 := by rw [own_upd, if_neg (by omega), if_neg (by omega)]
      have eu1 : own_upd 1 u1 q1 p2 = (u1 ||| (q1 <<< (p2 &&& 0x3f).toInt64)) := by rw [own_upd, if_pos hk]
      refine ⟨rfl, N18, K21, ?_⟩
      rw [eu0, eu1]
      exact f_19
  · have hfar := hk
    show Good p e below _ (s₁.setTop (mkF m 6 #[.val (.ref r0), .val (.long q1), .second, .val (.int p2), .val (.int (p2 / (64 : Int32)))] []))
    refine Good.back (fun _ k => XS.iload X0.here hx rfl (hb hby own_d1_6) rfl k) ?_
    show Good p e below _ (s₁.setTop (mkF m 8 #[.val (.ref r0), .val (.long q1), .second, .val (.int p2), .val (.int (p2 / (64 : Int32)))] [(.int (p2 / (64 : Int32)))]))
    refine Good.back (fun _ k => XS.aloadN X0.here hx rfl (hb hby own_d1_8) rfl rfl k) ?_
    show Good p e below _ (s₁.setTop (mkF m 9 #[.val (.ref r0), .val (.long q1), .second, .val (.int p2), .val (.int (p2 / (64 : Int32)))] [(.ref r0), (.int (p2 / (64 : Int32)))]))
    have fc26 := V0
    obtain ⟨cl26, Ar26, qk26, S26, N26', H26, G26⟩ := fc26
    refine Good.back (X0.arraylength hx (by rw [e0]; exact Ar26.1) (State.isArrayOf_alike hZ.alike Ar26.2.1) (g := (mkF m 9 #[.val (.ref r0), .val (.long q1), .second, .val (.int p2), .val (.int (p2 / (64 : Int32)))] [(.ref r0), (.int (p2 / (64 : Int32)))])) rfl rfl (hb hby own_d1_9)) ?_
    rw [len_of S26 N26']
    show Good p e below _ (s₁.setTop (mkF m 10 #[.val (.ref r0), .val (.long q1), .second, .val (.int p2), .val (.int (p2 / (64 : Int32)))] [(.int (2 : Int32)), (.int (p2 / (64 : Int32)))]))
    refine Good.back (fun _ k => XS.icmpYes X0.here hx rfl (pc0 := 10) (pc' := 57) rfl (hb hby own_d1_10) rfl (flt (by rw [Int32.lt_iff_toInt_lt, hdiv]; show ¬ (_ < (2 : Int)); omega)).2.1 (by decide) (by decide) k) ?_
    show Good p e below _ (s₁.setTop (mkF m 57 #[.val (.ref r0), .val (.long q1), .second, .val (.int p2), .val (.int (p2 / (64 : Int32)))] []))
    obtain ⟨fs27, hr27, hrun27, hended27, hW27, hsame27⟩ := X0.leave (v := none) (fun _ => rfl)
    refine Good.done (X0.returnOut hx Bd.returns (hb hby own_d1_57) hr27) hrun27 hended27 ⟨_, _, rfl, ?_, ⟨_, rfl⟩, hW27, hsame27.mono (by decide) (by decide)⟩
    show Q1_2 Z r0 q1 p2 kk u0 u1 h0 n0 _ s₁.heap _
    rw [e0]
    have eu0 : own_upd 0 u0 q1 p2 = u0 := by rw [own_upd, if_neg (by omega), if_neg (by omega)]
    have eu1 : own_upd 1 u1 q1 p2 = u1 := by rw [own_upd, if_neg (by omega), if_neg (by omega)]
    refine ⟨rfl, N0, KR, ?_⟩
    rw [eu0, eu1]
    exact V0
theorem own_ef_1_3 (m : MethodId) (x0 : Addr) (x1 : Int64) (x2 : Int32) : entryFrame m #[(.ref x0), (.long x1), (.int x2)] 5 = mkF m 0 #[.val (.ref x0), .val (.long x1), .second, .val (.int x2), .unset] [] := by first | (simp [entryFrame, mkF, argsToLocals, Value.category]; done) | rfl
def Q1_3 (Z : State) (r0 : Addr) (q1 : Int64) (p2 : Int32) (kk : ClassId) (u0 : Int64) (u1 : Int64) (u2 : Int64) (h0 : Heap) (n0 : Nat) (v : Option Value) (h : Heap) (L : List Loc) : Prop := v = none ∧ Fr n0 L ∧ Keep h0 h [r0] ∧ Arv Z h r0 kk .long (3 : Int32) [(.long (own_upd 0 u0 q1 p2)), (.long (own_upd 1 u1 q1 p2)), (.long (own_upd 2 u2 q1 p2))] (.long (0 : Int64))
set_option maxRecDepth 65536 in
set_option maxHeartbeats 40000000 in
theorem rm1_3 (l : Launch) (Z : State) (a0 : Array Value) (hw : ∀ d ∈ tables_1, d.before a0 Z = true) (ws : List Jvm.Cond) (r0 : Addr) (q1 : Int64) (p2 : Int32) (kk : ClassId) (u0 : Int64) (u1 : Int64) (u2 : Int64) (h0 : Heap) (n0 : Nat) (Z0 : n0 ≤ h0.size) (V0 : Arv Z h0 r0 kk .long (3 : Int32) [(.long u0), (.long u1), (.long u2)] (.long (0 : Int64))) (g0 : n0 ≤ r0) (hst : 0 ≤ p2.toInt) :
    MetFree l (⟨"com/example/fradno/fradno/core/CellSet", "or", "([JJI)V"⟩ : MethodName) (head1 (Jvm.Cond.code (⟨"com/example/fradno/fradno/core/CellSet", "or", "([JJI)V"⟩ : MethodName) prog_35_method_7_code 5 none :: ws) ({ frames := 0, cells := 0, slots := 0, locals := 0 } : Room)) (fun a U => a = #[(.ref r0), (.long q1), (.int p2)] ∧ Z.Warmed39 U.vm ∧ U.heap = h0) (fun _ _ _ _ _ => True) (fun _ U o U' => ∃ v L, o = .returned v ∧ Q1_3 Z r0 q1 p2 kk u0 u1 u2 h0 n0 v U'.heap L ∧ FrameEnd U o U' L ({ frames := 0, cells := 0, slots := 0, locals := 0 } : Room).cells ({ frames := 0, cells := 0, slots := 0, locals := 0 } : Room).slots) := by
  refine MetFree.of_bodySF (plainFor_of_name own_pn1) hisR ?_
  intro p e s m args below meth c s₁ Bd hml0 hP hK
  obtain ⟨rfl, hZ, hh⟩ := hP
  have hx := Bd.exec
  have hby := Bd.bytes
  have hml : c.maxLocals = 5 := hml0
  have hown : s.vm.findClass "com/example/fradno/fradno/core/CellSet" = some m.cls := findClass_of_methodNamed Bd.named
  have hnm := (name_of_methodNamed Bd.named Bd.method).1
  have X0 : Stand p l e ({ frames := 0, cells := 0, slots := 0, locals := 0 } : Room) s m #[(.ref r0), (.long q1), (.int p2)] below meth c s₁ [] 0 0 := Stand.of_body Bd
  have e0 : s₁.heap = h0 := by rw [← hh, Bd.state]; rfl
  have N0 := Fr.nil n0
  have KR : Keep h0 h0 [r0] := Keep.refl h0 _
  show Good p e below (fun o U' => ∃ v L, o = .returned v ∧ Q1_3 Z r0 q1 p2 kk u0 u1 u2 h0 n0 v U'.heap L ∧ FrameEnd s o U' L ({ frames := 0, cells := 0, slots := 0, locals := 0 } : Room).cells ({ frames := 0, cells := 0, slots := 0, locals := 0 } : Room).slots) _
  refine Good.back (S' := s₁.setTop (mkF m 0 #[.val (.ref r0), .val (.long q1), .second, .val (.int p2), .unset] [])) (fun t k => castTop (own_ef_1_3 m r0 q1 p2) k) ?_
  show Good p e below _ (s₁.setTop (mkF m 0 #[.val (.ref r0), .val (.long q1), .second, .val (.int p2), .unset] []))
  refine Good.back (fun _ k => XS.iloadN X0.here hx rfl (hb hby own_d1_0) rfl k) ?_
  show Good p e below _ (s₁.setTop (mkF m 1 #[.val (.ref r0), .val (.long q1), .second, .val (.int p2), .unset] [(.int p2)]))
  refine Good.back (fun _ k => XS.bipush X0.here hx rfl (hb hby own_d1_1) k) ?_
  show Good p e below _ (s₁.setTop (mkF m 3 #[.val (.ref r0), .val (.long q1), .second, .val (.int p2), .unset] [(.int (64 : Int32)), (.int p2)]))
  refine Good.back (fun _ k => XS.idiv X0.here hx rfl (hb hby own_d1_3) rfl (by decide) k) ?_
  show Good p e below _ (s₁.setTop (mkF m 4 #[.val (.ref r0), .val (.long q1), .second, .val (.int p2), .unset] [(.int (p2 / (64 : Int32)))]))
  refine Good.back (fun _ k => XS.istore X0.here hx rfl (hb hby own_d1_4) rfl (l' := #[.val (.ref r0), .val (.long q1), .second, .val (.int p2), .val (.int (p2 / (64 : Int32)))]) rfl k) ?_
  show Good p e below _ (s₁.setTop (mkF m 6 #[.val (.ref r0), .val (.long q1), .second, .val (.int p2), .val (.int (p2 / (64 : Int32)))] []))
  have hdiv : ((p2 / (64 : Int32))).toInt = p2.toInt / 64 := (c_idiv p2 64 64 rfl (by decide)).1 hst
  have hrem := own_rem hst
  rcases (by omega : p2.toInt / 64 = 0 ∨ p2.toInt / 64 = 1 ∨ p2.toInt / 64 = 2 ∨ 3 ≤ p2.toInt / 64) with hk | hk | hk | hk
  · have he : (p2 / (64 : Int32)) = (0 : Int32) := Int32.toInt_inj.mp (by rw [hdiv, hk]; rfl)
    rw [he]
    show Good p e below _ (s₁.setTop (mkF m 6 #[.val (.ref r0), .val (.long q1), .second, .val (.int p2), .val (.int (0 : Int32))] []))
    refine Good.back (fun _ k => XS.iload X0.here hx rfl (hb hby own_d1_6) rfl k) ?_
    show Good p e below _ (s₁.setTop (mkF m 8 #[.val (.ref r0), .val (.long q1), .second, .val (.int p2), .val (.int (0 : Int32))] [(.int (0 : Int32))]))
    refine Good.back (fun _ k => XS.aloadN X0.here hx rfl (hb hby own_d1_8) rfl rfl k) ?_
    show Good p e below _ (s₁.setTop (mkF m 9 #[.val (.ref r0), .val (.long q1), .second, .val (.int p2), .val (.int (0 : Int32))] [(.ref r0), (.int (0 : Int32))]))
    have fc1 := V0
    obtain ⟨cl1, Ar1, qk1, S1, N1', H1, G1⟩ := fc1
    refine Good.back (X0.arraylength hx (by rw [e0]; exact Ar1.1) (State.isArrayOf_alike hZ.alike Ar1.2.1) (g := (mkF m 9 #[.val (.ref r0), .val (.long q1), .second, .val (.int p2), .val (.int (0 : Int32))] [(.ref r0), (.int (0 : Int32))])) rfl rfl (hb hby own_d1_9)) ?_
    rw [len_of S1 N1']
    show Good p e below _ (s₁.setTop (mkF m 10 #[.val (.ref r0), .val (.long q1), .second, .val (.int p2), .val (.int (0 : Int32))] [(.int (3 : Int32)), (.int (0 : Int32))]))
    refine Good.back (fun _ k => XS.icmpNo X0.here hx rfl (hb hby own_d1_10) rfl (tlt (by decide : ((0 : Int32) < (3 : Int32)))).2.1 k) ?_
    show Good p e below _ (s₁.setTop (mkF m 13 #[.val (.ref r0), .val (.long q1), .second, .val (.int p2), .val (.int (0 : Int32))] []))
    refine Good.back (fun _ k => XS.aloadN X0.here hx rfl (hb hby own_d1_13) rfl rfl k) ?_
    show Good p e below _ (s₁.setTop (mkF m 14 #[.val (.ref r0), .val (.long q1), .second, .val (.int p2), .val (.int (0 : Int32))] [(.ref r0)]))
    refine Good.back (fun _ k => XS.iload X0.here hx rfl (hb hby own_d1_14) rfl k) ?_
    show Good p e below _ (s₁.setTop (mkF m 16 #[.val (.ref r0), .val (.long q1), .second, .val (.int p2), .val (.int (0 : Int32))] [(.int (0 : Int32)), (.ref r0)]))
    refine Good.back (fun _ k => Jvm.Free.XT.dup2 X0.here hx rfl (hb hby own_d1_16) rfl rfl rfl k) ?_
    show Good p e below _ (s₁.setTop (mkF m 17 #[.val (.ref r0), .val (.long q1), .second, .val (.int p2), .val (.int (0 : Int32))] [(.int (0 : Int32)), (.ref r0), (.int (0 : Int32)), (.ref r0)]))
    have fc2 := V0
    obtain ⟨cl2, Ar2, qk2, S2, N2', H2, G2⟩ := fc2
    have hin2 : ¬ ((0 : Int32) < 0 ∨ cl2.slots.size ≤ ((0 : Int32)).toNatClampNeg) := inb_of S2 ⟨by decide, by decide⟩
    have hat2 : cl2.slots[((0 : Int32)).toNatClampNeg]? = some (.long u0) := Has.at H2 hin2 rfl
    refine Good.back (X0.laload hx (j := (0 : Int32)) (v := (.long u0)) (by rw [e0]; exact Ar2.1) (State.isArrayOf_alike hZ.alike Ar2.2.1) Ar2.2.2 hin2 hat2 (g := (mkF m 17 #[.val (.ref r0), .val (.long q1), .second, .val (.int p2), .val (.int (0 : Int32))] [(.int (0 : Int32)), (.ref r0), (.int (0 : Int32)), (.ref r0)])) rfl rfl (hb hby own_d1_17)) ?_
    show Good p e below _ (s₁.setTop (mkF m 18 #[.val (.ref r0), .val (.long q1), .second, .val (.int p2), .val (.int (0 : Int32))] [(.long u0), (.int (0 : Int32)), (.ref r0)]))
    refine Good.back (fun _ k => XS.lloadN X0.here hx rfl (hb hby own_d1_18) rfl k) ?_
    show Good p e below _ (s₁.setTop (mkF m 19 #[.val (.ref r0), .val (.long q1), .second, .val (.int p2), .val (.int (0 : Int32))] [(.long q1), (.long u0), (.int (0 : Int32)), (.ref r0)]))
    refine Good.back (fun _ k => XS.iloadN X0.here hx rfl (hb hby own_d1_19) rfl k) ?_
    show Good p e below _ (s₁.setTop (mkF m 20 #[.val (.ref r0), .val (.long q1), .second, .val (.int p2), .val (.int (0 : Int32))] [(.int p2), (.long q1), (.long u0), (.int (0 : Int32)), (.ref r0)]))
    refine Good.back (fun _ k => XS.lshl X0.here hx rfl (hb hby own_d1_20) rfl k) ?_
    show Good p e below _ (s₁.setTop (mkF m 21 #[.val (.ref r0), .val (.long q1), .second, .val (.int p2), .val (.int (0 : Int32))] [(.long (q1 <<< (p2 &&& 0x3f).toInt64)), (.long u0), (.int (0 : Int32)), (.ref r0)]))
    refine Good.back (fun _ k => XS.lor X0.here hx rfl (hb hby own_d1_21) rfl k) ?_
    show Good p e below _ (s₁.setTop (mkF m 22 #[.val (.ref r0), .val (.long q1), .second, .val (.int p2), .val (.int (0 : Int32))] [(.long (u0 ||| (q1 <<< (p2 &&& 0x3f).toInt64))), (.int (0 : Int32)), (.ref r0)]))
    have fc3 := V0
    obtain ⟨cl3, Ar3, qk3, S3, N3', H3, G3⟩ := fc3
    have hin3 : ¬ ((0 : Int32) < 0 ∨ cl3.slots.size ≤ ((0 : Int32)).toNatClampNeg) := inb_of S3 ⟨by decide, by decide⟩
    obtain ⟨T3, h3, X3, e3, W3, st3⟩ := stJ X0 hx hZ e0 Ar3 (j := (0 : Int32)) hin3 (g := (mkF m 22 #[.val (.ref r0), .val (.long q1), .second, .val (.int p2), .val (.int (0 : Int32))] [(.long (u0 ||| (q1 <<< (p2 &&& 0x3f).toInt64))), (.int (0 : Int32)), (.ref r0)])) rfl rfl (hb hby own_d1_22)
    refine Good.back st3 ?_
    have f_4 : Arv Z h3 r0 kk .long (3 : Int32) [(.long (u0 ||| (q1 <<< (p2 &&& 0x3f).toInt64))), (.long u1), (.long u2)] (.long (0 : Int64)) := Arv.set Ar3 qk3 S3 N3' H3 G3 rfl W3 0 rfl (Nat.le_of_ble_eq_true rfl)
    have N3 := Fr.snoc X3 N0 g0
    have Z5 : n0 ≤ h3.size := Nat.le_trans Z0 (Keep.of_wr W3).1
    have K6 : Keep h0 h3 [r0] := KR.wr W3 (Or.inl (List.mem_of_getElem? (i := 0) rfl))
    show Good p e below _ (T3.setTop (mkF m 23 #[.val (.ref r0), .val (.long q1), .second, .val (.int p2), .val (.int (0 : Int32))] []))
    refine Good.back (fun _ k => XS.iloadN X3.here hx rfl (hb hby own_d1_23) rfl k) ?_
    show Good p e below _ (T3.setTop (mkF m 24 #[.val (.ref r0), .val (.long q1), .second, .val (.int p2), .val (.int (0 : Int32))] [(.int p2)]))
    refine Good.back (fun _ k => XS.bipush X3.here hx rfl (hb hby own_d1_24) k) ?_
    show Good p e below _ (T3.setTop (mkF m 26 #[.val (.ref r0), .val (.long q1), .second, .val (.int p2), .val (.int (0 : Int32))] [(.int (64 : Int32)), (.int p2)]))
    refine Good.back (fun _ k => iremM (g := (mkF m 26 #[.val (.ref r0), .val (.long q1), .second, .val (.int p2), .val (.int (0 : Int32))] [(.int (64 : Int32)), (.int p2)])) X3 hx rfl (hb hby own_d1_26) rfl (by decide) k) ?_
    show Good p e below _ (T3.setTop (mkF m 27 #[.val (.ref r0), .val (.long q1), .second, .val (.int p2), .val (.int (0 : Int32))] [(.int (p2 % (64 : Int32)))]))
    by_cases hc27_7 : (p2 % (64 : Int32)) = (0 : Int32)
    · refine Good.back (fun _ k => XS.ifYes X3.here hx rfl (pc0 := 27) (pc' := 57) rfl (hb hby own_d1_27) rfl ((if0 _ _).trans (teq hc27_7).1) (by decide) (by decide) k) ?_
      show Good p e below _ (T3.setTop (mkF m 57 #[.val (.ref r0), .val (.long q1), .second, .val (.int p2), .val (.int (0 : Int32))] []))
      obtain ⟨fs8, hr8, hrun8, hended8, hW8, hsame8⟩ := X3.leave (v := none) (fun _ => rfl)
      refine Good.done (X3.returnOut hx Bd.returns (hb hby own_d1_57) hr8) hrun8 hended8 ⟨_, _, rfl, ?_, ⟨_, rfl⟩, hW8, hsame8.mono (by decide) (by decide)⟩
      show Q1_3 Z r0 q1 p2 kk u0 u1 u2 h0 n0 _ T3.heap _
      rw [e3]
      have hr0 : p2.toInt % 64 = 0 := by rw [← hrem, hc27_7]; rfl
      have eu0 : own_upd 0 u0 q1 p2 = (u0 ||| (q1 <<< (p2 &&& 0x3f).toInt64)) := by rw [own_upd, if_pos hk]
      have eu1 : own_upd 1 u1 q1 p2 = u1 := by rw [own_upd, if_neg (by omega), if_neg (by omega)]
      have eu2 : own_upd 2 u2 q1 p2 = u2 := by rw [own_upd, if_neg (by omega), if_neg (by omega)]
      refine ⟨rfl, N3, K6, ?_⟩
      rw [eu0, eu1, eu2]
      exact f_4
    · refine Good.back (fun _ k => XS.ifNo X3.here hx rfl (hb hby own_d1_27) rfl ((if0 _ _).trans (feq hc27_7).1) k) ?_
      show Good p e below _ (T3.setTop (mkF m 30 #[.val (.ref r0), .val (.long q1), .second, .val (.int p2), .val (.int (0 : Int32))] []))
      refine Good.back (fun _ k => XS.iload X3.here hx rfl (hb hby own_d1_30) rfl k) ?_
      show Good p e below _ (T3.setTop (mkF m 32 #[.val (.ref r0), .val (.long q1), .second, .val (.int p2), .val (.int (0 : Int32))] [(.int (0 : Int32))]))
      refine Good.back (fun _ k => XS.iconst X3.here hx rfl (hb hby own_d1_32) k) ?_
      show Good p e below _ (T3.setTop (mkF m 33 #[.val (.ref r0), .val (.long q1), .second, .val (.int p2), .val (.int (0 : Int32))] [(.int (1 : Int32)), (.int (0 : Int32))]))
      refine Good.back (fun _ k => XS.iadd X3.here hx rfl (hb hby own_d1_33) rfl k) ?_
      show Good p e below _ (T3.setTop (mkF m 34 #[.val (.ref r0), .val (.long q1), .second, .val (.int p2), .val (.int (0 : Int32))] [(.int ((0 : Int32) + (1 : Int32)))]))
      rw [show (((0 : Int32) + (1 : Int32)) : Int32) = (1 : Int32) from by decide]
      show Good p e below _ (T3.setTop (mkF m 34 #[.val (.ref r0), .val (.long q1), .second, .val (.int p2), .val (.int (0 : Int32))] [(.int (1 : Int32))]))
      refine Good.back (fun _ k => XS.aloadN X3.here hx rfl (hb hby own_d1_34) rfl rfl k) ?_
      show Good p e below _ (T3.setTop (mkF m 35 #[.val (.ref r0), .val (.long q1), .second, .val (.int p2), .val (.int (0 : Int32))] [(.ref r0), (.int (1 : Int32))]))
      have fc9 := f_4
      obtain ⟨cl9, Ar9, qk9, S9, N9', H9, G9⟩ := fc9
      refine Good.back (X3.arraylength hx (by rw [e3]; exact Ar9.1) (State.isArrayOf_alike hZ.alike Ar9.2.1) (g := (mkF m 35 #[.val (.ref r0), .val (.long q1), .second, .val (.int p2), .val (.int (0 : Int32))] [(.ref r0), (.int (1 : Int32))])) rfl rfl (hb hby own_d1_35)) ?_
      rw [len_of S9 N9']
      show Good p e below _ (T3.setTop (mkF m 36 #[.val (.ref r0), .val (.long q1), .second, .val (.int p2), .val (.int (0 : Int32))] [(.int (3 : Int32)), (.int (1 : Int32))]))
      refine Good.back (fun _ k => XS.icmpNo X3.here hx rfl (hb hby own_d1_36) rfl (tlt (by decide : ((1 : Int32) < (3 : Int32)))).2.1 k) ?_
      show Good p e below _ (T3.setTop (mkF m 39 #[.val (.ref r0), .val (.long q1), .second, .val (.int p2), .val (.int (0 : Int32))] []))
      refine Good.back (fun _ k => XS.aloadN X3.here hx rfl (hb hby own_d1_39) rfl rfl k) ?_
      show Good p e below _ (T3.setTop (mkF m 40 #[.val (.ref r0), .val (.long q1), .second, .val (.int p2), .val (.int (0 : Int32))] [(.ref r0)]))
      refine Good.back (fun _ k => XS.iload X3.here hx rfl (hb hby own_d1_40) rfl k) ?_
      show Good p e below _ (T3.setTop (mkF m 42 #[.val (.ref r0), .val (.long q1), .second, .val (.int p2), .val (.int (0 : Int32))] [(.int (0 : Int32)), (.ref r0)]))
      refine Good.back (fun _ k => XS.iconst X3.here hx rfl (hb hby own_d1_42) k) ?_
      show Good p e below _ (T3.setTop (mkF m 43 #[.val (.ref r0), .val (.long q1), .second, .val (.int p2), .val (.int (0 : Int32))] [(.int (1 : Int32)), (.int (0 : Int32)), (.ref r0)]))
      refine Good.back (fun _ k => XS.iadd X3.here hx rfl (hb hby own_d1_43) rfl k) ?_
      show Good p e below _ (T3.setTop (mkF m 44 #[.val (.ref r0), .val (.long q1), .second, .val (.int p2), .val (.int (0 : Int32))] [(.int ((0 : Int32) + (1 : Int32))), (.ref r0)]))
      rw [show (((0 : Int32) + (1 : Int32)) : Int32) = (1 : Int32) from by decide]
      show Good p e below _ (T3.setTop (mkF m 44 #[.val (.ref r0), .val (.long q1), .second, .val (.int p2), .val (.int (0 : Int32))] [(.int (1 : Int32)), (.ref r0)]))
      refine Good.back (fun _ k => Jvm.Free.XT.dup2 X3.here hx rfl (hb hby own_d1_44) rfl rfl rfl k) ?_
      show Good p e below _ (T3.setTop (mkF m 45 #[.val (.ref r0), .val (.long q1), .second, .val (.int p2), .val (.int (0 : Int32))] [(.int (1 : Int32)), (.ref r0), (.int (1 : Int32)), (.ref r0)]))
      have fc10 := f_4
      obtain ⟨cl10, Ar10, qk10, S10, N10', H10, G10⟩ := fc10
      have hin10 : ¬ ((1 : Int32) < 0 ∨ cl10.slots.size ≤ ((1 : Int32)).toNatClampNeg) := inb_of S10 ⟨by decide, by decide⟩
      have hat10 : cl10.slots[((1 : Int32)).toNatClampNeg]? = some (.long u1) := Has.at H10 hin10 rfl
      refine Good.back (X3.laload hx (j := (1 : Int32)) (v := (.long u1)) (by rw [e3]; exact Ar10.1) (State.isArrayOf_alike hZ.alike Ar10.2.1) Ar10.2.2 hin10 hat10 (g := (mkF m 45 #[.val (.ref r0), .val (.long q1), .second, .val (.int p2), .val (.int (0 : Int32))] [(.int (1 : Int32)), (.ref r0), (.int (1 : Int32)), (.ref r0)])) rfl rfl (hb hby own_d1_45)) ?_
      show Good p e below _ (T3.setTop (mkF m 46 #[.val (.ref r0), .val (.long q1), .second, .val (.int p2), .val (.int (0 : Int32))] [(.long u1), (.int (1 : Int32)), (.ref r0)]))
      refine Good.back (fun _ k => XS.lloadN X3.here hx rfl (hb hby own_d1_46) rfl k) ?_
      show Good p e below _ (T3.setTop (mkF m 47 #[.val (.ref r0), .val (.long q1), .second, .val (.int p2), .val (.int (0 : Int32))] [(.long q1), (.long u1), (.int (1 : Int32)), (.ref r0)]))
      refine Good.back (fun _ k => XS.bipush X3.here hx rfl (hb hby own_d1_47) k) ?_
      show Good p e below _ (T3.setTop (mkF m 49 #[.val (.ref r0), .val (.long q1), .second, .val (.int p2), .val (.int (0 : Int32))] [(.int (64 : Int32)), (.long q1), (.long u1), (.int (1 : Int32)), (.ref r0)]))
      refine Good.back (fun _ k => XS.iloadN X3.here hx rfl (hb hby own_d1_49) rfl k) ?_
      show Good p e below _ (T3.setTop (mkF m 50 #[.val (.ref r0), .val (.long q1), .second, .val (.int p2), .val (.int (0 : Int32))] [(.int p2), (.int (64 : Int32)), (.long q1), (.long u1), (.int (1 : Int32)), (.ref r0)]))
      refine Good.back (fun _ k => XS.bipush X3.here hx rfl (hb hby own_d1_50) k) ?_
      show Good p e below _ (T3.setTop (mkF m 52 #[.val (.ref r0), .val (.long q1), .second, .val (.int p2), .val (.int (0 : Int32))] [(.int (64 : Int32)), (.int p2), (.int (64 : Int32)), (.long q1), (.long u1), (.int (1 : Int32)), (.ref r0)]))
      refine Good.back (fun _ k => iremM (g := (mkF m 52 #[.val (.ref r0), .val (.long q1), .second, .val (.int p2), .val (.int (0 : Int32))] [(.int (64 : Int32)), (.int p2), (.int (64 : Int32)), (.long q1), (.long u1), (.int (1 : Int32)), (.ref r0)])) X3 hx rfl (hb hby own_d1_52) rfl (by decide) k) ?_
      show Good p e below _ (T3.setTop (mkF m 53 #[.val (.ref r0), .val (.long q1), .second, .val (.int p2), .val (.int (0 : Int32))] [(.int (p2 % (64 : Int32))), (.int (64 : Int32)), (.long q1), (.long u1), (.int (1 : Int32)), (.ref r0)]))
      refine Good.back (fun _ k => XS.isub X3.here hx rfl (hb hby own_d1_53) rfl k) ?_
      show Good p e below _ (T3.setTop (mkF m 54 #[.val (.ref r0), .val (.long q1), .second, .val (.int p2), .val (.int (0 : Int32))] [(.int ((64 : Int32) - (p2 % (64 : Int32)))), (.long q1), (.long u1), (.int (1 : Int32)), (.ref r0)]))
      refine Good.back (fun _ k => XS.lushr X3.here hx rfl (hb hby own_d1_54) rfl k) ?_
      show Good p e below _ (T3.setTop (mkF m 55 #[.val (.ref r0), .val (.long q1), .second, .val (.int p2), .val (.int (0 : Int32))] [(.long ((q1.toUInt64 >>> (((64 : Int32) - (p2 % (64 : Int32))) &&& 0x3f).toInt64.toUInt64).toInt64)), (.long u1), (.int (1 : Int32)), (.ref r0)]))
      refine Good.back (fun _ k => XS.lor X3.here hx rfl (hb hby own_d1_55) rfl k) ?_
      show Good p e below _ (T3.setTop (mkF m 56 #[.val (.ref r0), .val (.long q1), .second, .val (.int p2), .val (.int (0 : Int32))] [(.long (u1 ||| ((q1.toUInt64 >>> (((64 : Int32) - (p2 % (64 : Int32))) &&& 0x3f).toInt64.toUInt64).toInt64))), (.int (1 : Int32)), (.ref r0)]))
      have fc11 := f_4
      obtain ⟨cl11, Ar11, qk11, S11, N11', H11, G11⟩ := fc11
      have hin11 : ¬ ((1 : Int32) < 0 ∨ cl11.slots.size ≤ ((1 : Int32)).toNatClampNeg) := inb_of S11 ⟨by decide, by decide⟩
      obtain ⟨T11, h11, X11, e11, W11, st11⟩ := stJ X3 hx hZ e3 Ar11 (j := (1 : Int32)) hin11 (g := (mkF m 56 #[.val (.ref r0), .val (.long q1), .second, .val (.int p2), .val (.int (0 : Int32))] [(.long (u1 ||| ((q1.toUInt64 >>> (((64 : Int32) - (p2 % (64 : Int32))) &&& 0x3f).toInt64.toUInt64).toInt64))), (.int (1 : Int32)), (.ref r0)])) rfl rfl (hb hby own_d1_56)
      refine Good.back st11 ?_
      have f_12 : Arv Z h11 r0 kk .long (3 : Int32) [(.long (u0 ||| (q1 <<< (p2 &&& 0x3f).toInt64))), (.long (u1 ||| ((q1.toUInt64 >>> (((64 : Int32) - (p2 % (64 : Int32))) &&& 0x3f).toInt64.toUInt64).toInt64))), (.long u2)] (.long (0 : Int64)) := Arv.set Ar11 qk11 S11 N11' H11 G11 rfl W11 1 rfl (Nat.le_of_ble_eq_true rfl)
      have N11 := Fr.snoc X11 N3 g0
      have Z13 : n0 ≤ h11.size := Nat.le_trans Z5 (Keep.of_wr W11).1
      have K14 : Keep h0 h11 [r0] := K6.wr W11 (Or.inl (List.mem_of_getElem? (i := 0) rfl))
      show Good p e below _ (T11.setTop (mkF m 57 #[.val (.ref r0), .val (.long q1), .second, .val (.int p2), .val (.int (0 : Int32))] []))
      obtain ⟨fs15, hr15, hrun15, hended15, hW15, hsame15⟩ := X11.leave (v := none) (fun _ => rfl)
      refine Good.done (X11.returnOut hx Bd.returns (hb hby own_d1_57) hr15) hrun15 hended15 ⟨_, _, rfl, ?_, ⟨_, rfl⟩, hW15, hsame15.mono (by decide) (by decide)⟩
      show Q1_3 Z r0 q1 p2 kk u0 u1 u2 h0 n0 _ T11.heap _
      rw [e11]
      have hr0 : ¬ p2.toInt % 64 = 0 := fun q => hc27_7 (Int32.toInt_inj.mp (by rw [hrem, q]; rfl))
      have eu0 : own_upd 0 u0 q1 p2 = (u0 ||| (q1 <<< (p2 &&& 0x3f).toInt64)) := by rw [own_upd, if_pos hk]
      have eu1 : own_upd 1 u1 q1 p2 = (u1 ||| ((q1.toUInt64 >>> (((64 : Int32) - (p2 % (64 : Int32))) &&& 0x3f).toInt64.toUInt64).toInt64)) := by rw [own_upd, if_neg (by omega), if_pos (by omega)]
      have eu2 : own_upd 2 u2 q1 p2 = u2 := by rw [own_upd, if_neg (by omega), if_neg (by omega)]
      refine ⟨rfl, N11, K14, ?_⟩
      rw [eu0, eu1, eu2]
      exact f_12
  · have he : (p2 / (64 : Int32)) = (1 : Int32) := Int32.toInt_inj.mp (by rw [hdiv, hk]; rfl)
    rw [he]
    show Good p e below _ (s₁.setTop (mkF m 6 #[.val (.ref r0), .val (.long q1), .second, .val (.int p2), .val (.int (1 : Int32))] []))
    refine Good.back (fun _ k => XS.iload X0.here hx rfl (hb hby own_d1_6) rfl k) ?_
    show Good p e below _ (s₁.setTop (mkF m 8 #[.val (.ref r0), .val (.long q1), .second, .val (.int p2), .val (.int (1 : Int32))] [(.int (1 : Int32))]))
    refine Good.back (fun _ k => XS.aloadN X0.here hx rfl (hb hby own_d1_8) rfl rfl k) ?_
    show Good p e below _ (s₁.setTop (mkF m 9 #[.val (.ref r0), .val (.long q1), .second, .val (.int p2), .val (.int (1 : Int32))] [(.ref r0), (.int (1 : Int32))]))
    have fc16 := V0
    obtain ⟨cl16, Ar16, qk16, S16, N16', H16, G16⟩ := fc16
    refine Good.back (X0.arraylength hx (by rw [e0]; exact Ar16.1) (State.isArrayOf_alike hZ.alike Ar16.2.1) (g := (mkF m 9 #[.val (.ref r0), .val (.long q1), .second, .val (.int p2), .val (.int (1 : Int32))] [(.ref r0), (.int (1 : Int32))])) rfl rfl (hb hby own_d1_9)) ?_
    rw [len_of S16 N16']
    show Good p e below _ (s₁.setTop (mkF m 10 #[.val (.ref r0), .val (.long q1), .second, .val (.int p2), .val (.int (1 : Int32))] [(.int (3 : Int32)), (.int (1 : Int32))]))
    refine Good.back (fun _ k => XS.icmpNo X0.here hx rfl (hb hby own_d1_10) rfl (tlt (by decide : ((1 : Int32) < (3 : Int32)))).2.1 k) ?_
    show Good p e below _ (s₁.setTop (mkF m 13 #[.val (.ref r0), .val (.long q1), .second, .val (.int p2), .val (.int (1 : Int32))] []))
    refine Good.back (fun _ k => XS.aloadN X0.here hx rfl (hb hby own_d1_13) rfl rfl k) ?_
    show Good p e below _ (s₁.setTop (mkF m 14 #[.val (.ref r0), .val (.long q1), .second, .val (.int p2), .val (.int (1 : Int32))] [(.ref r0)]))
    refine Good.back (fun _ k => XS.iload X0.here hx rfl (hb hby own_d1_14) rfl k) ?_
    show Good p e below _ (s₁.setTop (mkF m 16 #[.val (.ref r0), .val (.long q1), .second, .val (.int p2), .val (.int (1 : Int32))] [(.int (1 : Int32)), (.ref r0)]))
    refine Good.back (fun _ k => Jvm.Free.XT.dup2 X0.here hx rfl (hb hby own_d1_16) rfl rfl rfl k) ?_
    show Good p e below _ (s₁.setTop (mkF m 17 #[.val (.ref r0), .val (.long q1), .second, .val (.int p2), .val (.int (1 : Int32))] [(.int (1 : Int32)), (.ref r0), (.int (1 : Int32)), (.ref r0)]))
    have fc17 := V0
    obtain ⟨cl17, Ar17, qk17, S17, N17', H17, G17⟩ := fc17
    have hin17 : ¬ ((1 : Int32) < 0 ∨ cl17.slots.size ≤ ((1 : Int32)).toNatClampNeg) := inb_of S17 ⟨by decide, by decide⟩
    have hat17 : cl17.slots[((1 : Int32)).toNatClampNeg]? = some (.long u1) := Has.at H17 hin17 rfl
    refine Good.back (X0.laload hx (j := (1 : Int32)) (v := (.long u1)) (by rw [e0]; exact Ar17.1) (State.isArrayOf_alike hZ.alike Ar17.2.1) Ar17.2.2 hin17 hat17 (g := (mkF m 17 #[.val (.ref r0), .val (.long q1), .second, .val (.int p2), .val (.int (1 : Int32))] [(.int (1 : Int32)), (.ref r0), (.int (1 : Int32)), (.ref r0)])) rfl rfl (hb hby own_d1_17)) ?_
    show Good p e below _ (s₁.setTop (mkF m 18 #[.val (.ref r0), .val (.long q1), .second, .val (.int p2), .val (.int (1 : Int32))] [(.long u1), (.int (1 : Int32)), (.ref r0)]))
    refine Good.back (fun _ k => XS.lloadN X0.here hx rfl (hb hby own_d1_18) rfl k) ?_
    show Good p e below _ (s₁.setTop (mkF m 19 #[.val (.ref r0), .val (.long q1), .second, .val (.int p2), .val (.int (1 : Int32))] [(.long q1), (.long u1), (.int (1 : Int32)), (.ref r0)]))
    refine Good.back (fun _ k => XS.iloadN X0.here hx rfl (hb hby own_d1_19) rfl k) ?_
    show Good p e below _ (s₁.setTop (mkF m 20 #[.val (.ref r0), .val (.long q1), .second, .val (.int p2), .val (.int (1 : Int32))] [(.int p2), (.long q1), (.long u1), (.int (1 : Int32)), (.ref r0)]))
    refine Good.back (fun _ k => XS.lshl X0.here hx rfl (hb hby own_d1_20) rfl k) ?_
    show Good p e below _ (s₁.setTop (mkF m 21 #[.val (.ref r0), .val (.long q1), .second, .val (.int p2), .val (.int (1 : Int32))] [(.long (q1 <<< (p2 &&& 0x3f).toInt64)), (.long u1), (.int (1 : Int32)), (.ref r0)]))
    refine Good.back (fun _ k => XS.lor X0.here hx rfl (hb hby own_d1_21) rfl k) ?_
    show Good p e below _ (s₁.setTop (mkF m 22 #[.val (.ref r0), .val (.long q1), .second, .val (.int p2), .val (.int (1 : Int32))] [(.long (u1 ||| (q1 <<< (p2 &&& 0x3f).toInt64))), (.int (1 : Int32)), (.ref r0)]))
    have fc18 := V0
    obtain ⟨cl18, Ar18, qk18, S18, N18', H18, G18⟩ := fc18
    have hin18 : ¬ ((1 : Int32) < 0 ∨ cl18.slots.size ≤ ((1 : Int32)).toNatClampNeg) := inb_of S18 ⟨by decide, by decide⟩
    obtain ⟨T18, h18, X18, e18, W18, st18⟩ := stJ X0 hx hZ e0 Ar18 (j := (1 : Int32)) hin18 (g := (mkF m 22 #[.val (.ref r0), .val (.long q1), .second, .val (.int p2), .val (.int (1 : Int32))] [(.long (u1 ||| (q1 <<< (p2 &&& 0x3f).toInt64))), (.int (1 : Int32)), (.ref r0)])) rfl rfl (hb hby own_d1_22)
    refine Good.back st18 ?_
    have f_19 : Arv Z h18 r0 kk .long (3 : Int32) [(.long u0), (.long (u1 ||| (q1 <<< (p2 &&& 0x3f).toInt64))), (.long u2)] (.long (0 : Int64)) := Arv.set Ar18 qk18 S18 N18' H18 G18 rfl W18 1 rfl (Nat.le_of_ble_eq_true rfl)
    have N18 := Fr.snoc X18 N0 g0
    have Z20 : n0 ≤ h18.size := Nat.le_trans Z0 (Keep.of_wr W18).1
    have K21 : Keep h0 h18 [r0] := KR.wr W18 (Or.inl (List.mem_of_getElem? (i := 0) rfl))
    show Good p e below _ (T18.setTop (mkF m 23 #[.val (.ref r0), .val (.long q1), .second, .val (.int p2), .val (.int (1 : Int32))] []))
    refine Good.back (fun _ k => XS.iloadN X18.here hx rfl (hb hby own_d1_23) rfl k) ?_
    show Good p e below _ (T18.setTop (mkF m 24 #[.val (.ref r0), .val (.long q1), .second, .val (.int p2), .val (.int (1 : Int32))] [(.int p2)]))
    refine Good.back (fun _ k => XS.bipush X18.here hx rfl (hb hby own_d1_24) k) ?_
    show Good p e below _ (T18.setTop (mkF m 26 #[.val (.ref r0), .val (.long q1), .second, .val (.int p2), .val (.int (1 : Int32))] [(.int (64 : Int32)), (.int p2)]))
    refine Good.back (fun _ k => iremM (g := (mkF m 26 #[.val (.ref r0), .val (.long q1), .second, .val (.int p2), .val (.int (1 : Int32))] [(.int (64 : Int32)), (.int p2)])) X18 hx rfl (hb hby own_d1_26) rfl (by decide) k) ?_
    show Good p e below _ (T18.setTop (mkF m 27 #[.val (.ref r0), .val (.long q1), .second, .val (.int p2), .val (.int (1 : Int32))] [(.int (p2 % (64 : Int32)))]))
    by_cases hc27_22 : (p2 % (64 : Int32)) = (0 : Int32)
    · refine Good.back (fun _ k => XS.ifYes X18.here hx rfl (pc0 := 27) (pc' := 57) rfl (hb hby own_d1_27) rfl ((if0 _ _).trans (teq hc27_22).1) (by decide) (by decide) k) ?_
      show Good p e below _ (T18.setTop (mkF m 57 #[.val (.ref r0), .val (.long q1), .second, .val (.int p2), .val (.int (1 : Int32))] []))
      obtain ⟨fs23, hr23, hrun23, hended23, hW23, hsame23⟩ := X18.leave (v := none) (fun _ => rfl)
      refine Good.done (X18.returnOut hx Bd.returns (hb hby own_d1_57) hr23) hrun23 hended23 ⟨_, _, rfl, ?_, ⟨_, rfl⟩, hW23, hsame23.mono (by decide) (by decide)⟩
      show Q1_3 Z r0 q1 p2 kk u0 u1 u2 h0 n0 _ T18.heap _
      rw [e18]
      have hr0 : p2.toInt % 64 = 0 := by rw [← hrem, hc27_22]; rfl
      have eu0 : own_upd 0 u0 q1 p2 = u0 := by rw [own_upd, if_neg (by omega), if_neg (by omega)]
      have eu1 : own_upd 1 u1 q1 p2 = (u1 ||| (q1 <<< (p2 &&& 0x3f).toInt64)) := by rw [own_upd, if_pos hk]
      have eu2 : own_upd 2 u2 q1 p2 = u2 := by rw [own_upd, if_neg (by omega), if_neg (by omega)]
      refine ⟨rfl, N18, K21, ?_⟩
      rw [eu0, eu1, eu2]
      exact f_19
    · refine Good.back (fun _ k => XS.ifNo X18.here hx rfl (hb hby own_d1_27) rfl ((if0 _ _).trans (feq hc27_22).1) k) ?_
      show Good p e below _ (T18.setTop (mkF m 30 #[.val (.ref r0), .val (.long q1), .second, .val (.int p2), .val (.int (1 : Int32))] []))
      refine Good.back (fun _ k => XS.iload X18.here hx rfl (hb hby own_d1_30) rfl k) ?_
      show Good p e below _ (T18.setTop (mkF m 32 #[.val (.ref r0), .val (.long q1), .second, .val (.int p2), .val (.int (1 : Int32))] [(.int (1 : Int32))]))
      refine Good.back (fun _ k => XS.iconst X18.here hx rfl (hb hby own_d1_32) k) ?_
      show Good p e below _ (T18.setTop (mkF m 33 #[.val (.ref r0), .val (.long q1), .second, .val (.int p2), .val (.int (1 : Int32))] [(.int (1 : Int32)), (.int (1 : Int32))]))
      refine Good.back (fun _ k => XS.iadd X18.here hx rfl (hb hby own_d1_33) rfl k) ?_
      show Good p e below _ (T18.setTop (mkF m 34 #[.val (.ref r0), .val (.long q1), .second, .val (.int p2), .val (.int (1 : Int32))] [(.int ((1 : Int32) + (1 : Int32)))]))
      rw [show (((1 : Int32) + (1 : Int32)) : Int32) = (2 : Int32) from by decide]
      show Good p e below _ (T18.setTop (mkF m 34 #[.val (.ref r0), .val (.long q1), .second, .val (.int p2), .val (.int (1 : Int32))] [(.int (2 : Int32))]))
      refine Good.back (fun _ k => XS.aloadN X18.here hx rfl (hb hby own_d1_34) rfl rfl k) ?_
      show Good p e below _ (T18.setTop (mkF m 35 #[.val (.ref r0), .val (.long q1), .second, .val (.int p2), .val (.int (1 : Int32))] [(.ref r0), (.int (2 : Int32))]))
      have fc24 := f_19
      obtain ⟨cl24, Ar24, qk24, S24, N24', H24, G24⟩ := fc24
      refine Good.back (X18.arraylength hx (by rw [e18]; exact Ar24.1) (State.isArrayOf_alike hZ.alike Ar24.2.1) (g := (mkF m 35 #[.val (.ref r0), .val (.long q1), .second, .val (.int p2), .val (.int (1 : Int32))] [(.ref r0), (.int (2 : Int32))])) rfl rfl (hb hby own_d1_35)) ?_
      rw [len_of S24 N24']
      show Good p e below _ (T18.setTop (mkF m 36 #[.val (.ref r0), .val (.long q1), .second, .val (.int p2), .val (.int (1 : Int32))] [(.int (3 : Int32)), (.int (2 : Int32))]))
      refine Good.back (fun _ k => XS.icmpNo X18.here hx rfl (hb hby own_d1_36) rfl (tlt (by decide : ((2 : Int32) < (3 : Int32)))).2.1 k) ?_
      show Good p e below _ (T18.setTop (mkF m 39 #[.val (.ref r0), .val (.long q1), .second, .val (.int p2), .val (.int (1 : Int32))] []))
      refine Good.back (fun _ k => XS.aloadN X18.here hx rfl (hb hby own_d1_39) rfl rfl k) ?_
      show Good p e below _ (T18.setTop (mkF m 40 #[.val (.ref r0), .val (.long q1), .second, .val (.int p2), .val (.int (1 : Int32))] [(.ref r0)]))
      refine Good.back (fun _ k => XS.iload X18.here hx rfl (hb hby own_d1_40) rfl k) ?_
      show Good p e below _ (T18.setTop (mkF m 42 #[.val (.ref r0), .val (.long q1), .second, .val (.int p2), .val (.int (1 : Int32))] [(.int (1 : Int32)), (.ref r0)]))
      refine Good.back (fun _ k => XS.iconst X18.here hx rfl (hb hby own_d1_42) k) ?_
      show Good p e below _ (T18.setTop (mkF m 43 #[.val (.ref r0), .val (.long q1), .second, .val (.int p2), .val (.int (1 : Int32))] [(.int (1 : Int32)), (.int (1 : Int32)), (.ref r0)]))
      refine Good.back (fun _ k => XS.iadd X18.here hx rfl (hb hby own_d1_43) rfl k) ?_
      show Good p e below _ (T18.setTop (mkF m 44 #[.val (.ref r0), .val (.long q1), .second, .val (.int p2), .val (.int (1 : Int32))] [(.int ((1 : Int32) + (1 : Int32))), (.ref r0)]))
      rw [show (((1 : Int32) + (1 : Int32)) : Int32) = (2 : Int32) from by decide]
      show Good p e below _ (T18.setTop (mkF m 44 #[.val (.ref r0), .val (.long q1), .second, .val (.int p2), .val (.int (1 : Int32))] [(.int (2 : Int32)), (.ref r0)]))
      refine Good.back (fun _ k => Jvm.Free.XT.dup2 X18.here hx rfl (hb hby own_d1_44) rfl rfl rfl k) ?_
      show Good p e below _ (T18.setTop (mkF m 45 #[.val (.ref r0), .val (.long q1), .second, .val (.int p2), .val (.int (1 : Int32))] [(.int (2 : Int32)), (.ref r0), (.int (2 : Int32)), (.ref r0)]))
      have fc25 := f_19
      obtain ⟨cl25, Ar25, qk25, S25, N25', H25, G25⟩ := fc25
      have hin25 : ¬ ((2 : Int32) < 0 ∨ cl25.slots.size ≤ ((2 : Int32)).toNatClampNeg) := inb_of S25 ⟨by decide, by decide⟩
      have hat25 : cl25.slots[((2 : Int32)).toNatClampNeg]? = some (.long u2) := Has.at H25 hin25 rfl
      refine Good.back (X18.laload hx (j := (2 : Int32)) (v := (.long u2)) (by rw [e18]; exact Ar25.1) (State.isArrayOf_alike hZ.alike Ar25.2.1) Ar25.2.2 hin25 hat25 (g := (mkF m 45 #[.val (.ref r0), .val (.long q1), .second, .val (.int p2), .val (.int (1 : Int32))] [(.int (2 : Int32)), (.ref r0), (.int (2 : Int32)), (.ref r0)])) rfl rfl (hb hby own_d1_45)) ?_
      show Good p e below _ (T18.setTop (mkF m 46 #[.val (.ref r0), .val (.long q1), .second, .val (.int p2), .val (.int (1 : Int32))] [(.long u2), (.int (2 : Int32)), (.ref r0)]))
      refine Good.back (fun _ k => XS.lloadN X18.here hx rfl (hb hby own_d1_46) rfl k) ?_
      show Good p e below _ (T18.setTop (mkF m 47 #[.val (.ref r0), .val (.long q1), .second, .val (.int p2), .val (.int (1 : Int32))] [(.long q1), (.long u2), (.int (2 : Int32)), (.ref r0)]))
      refine Good.back (fun _ k => XS.bipush X18.here hx rfl (hb hby own_d1_47) k) ?_
      show Good p e below _ (T18.setTop (mkF m 49 #[.val (.ref r0), .val (.long q1), .second, .val (.int p2), .val (.int (1 : Int32))] [(.int (64 : Int32)), (.long q1), (.long u2), (.int (2 : Int32)), (.ref r0)]))
      refine Good.back (fun _ k => XS.iloadN X18.here hx rfl (hb hby own_d1_49) rfl k) ?_
      show Good p e below _ (T18.setTop (mkF m 50 #[.val (.ref r0), .val (.long q1), .second, .val (.int p2), .val (.int (1 : Int32))] [(.int p2), (.int (64 : Int32)), (.long q1), (.long u2), (.int (2 : Int32)), (.ref r0)]))
      refine Good.back (fun _ k => XS.bipush X18.here hx rfl (hb hby own_d1_50) k) ?_
      show Good p e below _ (T18.setTop (mkF m 52 #[.val (.ref r0), .val (.long q1), .second, .val (.int p2), .val (.int (1 : Int32))] [(.int (64 : Int32)), (.int p2), (.int (64 : Int32)), (.long q1), (.long u2), (.int (2 : Int32)), (.ref r0)]))
      refine Good.back (fun _ k => iremM (g := (mkF m 52 #[.val (.ref r0), .val (.long q1), .second, .val (.int p2), .val (.int (1 : Int32))] [(.int (64 : Int32)), (.int p2), (.int (64 : Int32)), (.long q1), (.long u2), (.int (2 : Int32)), (.ref r0)])) X18 hx rfl (hb hby own_d1_52) rfl (by decide) k) ?_
      show Good p e below _ (T18.setTop (mkF m 53 #[.val (.ref r0), .val (.long q1), .second, .val (.int p2), .val (.int (1 : Int32))] [(.int (p2 % (64 : Int32))), (.int (64 : Int32)), (.long q1), (.long u2), (.int (2 : Int32)), (.ref r0)]))
      refine Good.back (fun _ k => XS.isub X18.here hx rfl (hb hby own_d1_53) rfl k) ?_
      show Good p e below _ (T18.setTop (mkF m 54 #[.val (.ref r0), .val (.long q1), .second, .val (.int p2), .val (.int (1 : Int32))] [(.int ((64 : Int32) - (p2 % (64 : Int32)))), (.long q1), (.long u2), (.int (2 : Int32)), (.ref r0)]))
      refine Good.back (fun _ k => XS.lushr X18.here hx rfl (hb hby own_d1_54) rfl k) ?_
      show Good p e below _ (T18.setTop (mkF m 55 #[.val (.ref r0), .val (.long q1), .second, .val (.int p2), .val (.int (1 : Int32))] [(.long ((q1.toUInt64 >>> (((64 : Int32) - (p2 % (64 : Int32))) &&& 0x3f).toInt64.toUInt64).toInt64)), (.long u2), (.int (2 : Int32)), (.ref r0)]))
      refine Good.back (fun _ k => XS.lor X18.here hx rfl (hb hby own_d1_55) rfl k) ?_
      show Good p e below _ (T18.setTop (mkF m 56 #[.val (.ref r0), .val (.long q1), .second, .val (.int p2), .val (.int (1 : Int32))] [(.long (u2 ||| ((q1.toUInt64 >>> (((64 : Int32) - (p2 % (64 : Int32))) &&& 0x3f).toInt64.toUInt64).toInt64))), (.int (2 : Int32)), (.ref r0)]))
      have fc26 := f_19
      obtain ⟨cl26, Ar26, qk26, S26, N26', H26, G26⟩ := fc26
      have hin26 : ¬ ((2 : Int32) < 0 ∨ cl26.slots.size ≤ ((2 : Int32)).toNatClampNeg) := inb_of S26 ⟨by decide, by decide⟩
      obtain ⟨T26, h26, X26, e26, W26, st26⟩ := stJ X18 hx hZ e18 Ar26 (j := (2 : Int32)) hin26 (g := (mkF m 56 #[.val (.ref r0), .val (.long q1), .second, .val (.int p2), .val (.int (1 : Int32))] [(.long (u2 ||| ((q1.toUInt64 >>> (((64 : Int32) - (p2 % (64 : Int32))) &&& 0x3f).toInt64.toUInt64).toInt64))), (.int (2 : Int32)), (.ref r0)])) rfl rfl (hb hby own_d1_56)
      refine Good.back st26 ?_
      have f_27 : Arv Z h26 r0 kk .long (3 : Int32) [(.long u0), (.long (u1 ||| (q1 <<< (p2 &&& 0x3f).toInt64))), (.long (u2 ||| ((q1.toUInt64 >>> (((64 : Int32) - (p2 % (64 : Int32))) &&& 0x3f).toInt64.toUInt64).toInt64)))] (.long (0 : Int64)) := Arv.set Ar26 qk26 S26 N26' H26 G26 rfl W26 2 rfl (Nat.le_of_ble_eq_true rfl)
      have N26 := Fr.snoc X26 N18 g0
      have Z28 : n0 ≤ h26.size := Nat.le_trans Z20 (Keep.of_wr W26).1
      have K29 : Keep h0 h26 [r0] := K21.wr W26 (Or.inl (List.mem_of_getElem? (i := 0) rfl))
      show Good p e below _ (T26.setTop (mkF m 57 #[.val (.ref r0), .val (.long q1), .second, .val (.int p2), .val (.int (1 : Int32))] []))
      obtain ⟨fs30, hr30, hrun30, hended30, hW30, hsame30⟩ := X26.leave (v := none) (fun _ => rfl)
      refine Good.done (X26.returnOut hx Bd.returns (hb hby own_d1_57) hr30) hrun30 hended30 ⟨_, _, rfl, ?_, ⟨_, rfl⟩, hW30, hsame30.mono (by decide) (by decide)⟩
      show Q1_3 Z r0 q1 p2 kk u0 u1 u2 h0 n0 _ T26.heap _
      rw [e26]
      have hr0 : ¬ p2.toInt % 64 = 0 := fun q => hc27_22 (Int32.toInt_inj.mp (by rw [hrem, q]; rfl))
      have eu0 : own_upd 0 u0 q1 p2 = u0 := by rw [own_upd, if_neg (by omega), if_neg (by omega)]
      have eu1 : own_upd 1 u1 q1 p2 = (u1 ||| (q1 <<< (p2 &&& 0x3f).toInt64)) := by rw [own_upd, if_pos hk]
      have eu2 : own_upd 2 u2 q1 p2 = (u2 ||| ((q1.toUInt64 >>> (((64 : Int32) - (p2 % (64 : Int32))) &&& 0x3f).toInt64.toUInt64).toInt64)) := by rw [own_upd, if_neg (by omega), if_pos (by omega)]
      refine ⟨rfl, N26, K29, ?_⟩
      rw [eu0, eu1, eu2]
      exact f_27
  · have he : (p2 / (64 : Int32)) = (2 : Int32) := Int32.toInt_inj.mp (by rw [hdiv, hk]; rfl)
    rw [he]
    show Good p e below _ (s₁.setTop (mkF m 6 #[.val (.ref r0), .val (.long q1), .second, .val (.int p2), .val (.int (2 : Int32))] []))
    refine Good.back (fun _ k => XS.iload X0.here hx rfl (hb hby own_d1_6) rfl k) ?_
    show Good p e below _ (s₁.setTop (mkF m 8 #[.val (.ref r0), .val (.long q1), .second, .val (.int p2), .val (.int (2 : Int32))] [(.int (2 : Int32))]))
    refine Good.back (fun _ k => XS.aloadN X0.here hx rfl (hb hby own_d1_8) rfl rfl k) ?_
    show Good p e below _ (s₁.setTop (mkF m 9 #[.val (.ref r0), .val (.long q1), .second, .val (.int p2), .val (.int (2 : Int32))] [(.ref r0), (.int (2 : Int32))]))
    have fc31 := V0
    obtain ⟨cl31, Ar31, qk31, S31, N31', H31, G31⟩ := fc31
    refine Good.back (X0.arraylength hx (by rw [e0]; exact Ar31.1) (State.isArrayOf_alike hZ.alike Ar31.2.1) (g := (mkF m 9 #[.val (.ref r0), .val (.long q1), .second, .val (.int p2), .val (.int (2 : Int32))] [(.ref r0), (.int (2 : Int32))])) rfl rfl (hb hby own_d1_9)) ?_
    rw [len_of S31 N31']
    show Good p e below _ (s₁.setTop (mkF m 10 #[.val (.ref r0), .val (.long q1), .second, .val (.int p2), .val (.int (2 : Int32))] [(.int (3 : Int32)), (.int (2 : Int32))]))
    refine Good.back (fun _ k => XS.icmpNo X0.here hx rfl (hb hby own_d1_10) rfl (tlt (by decide : ((2 : Int32) < (3 : Int32)))).2.1 k) ?_
    show Good p e below _ (s₁.setTop (mkF m 13 #[.val (.ref r0), .val (.long q1), .second, .val (.int p2), .val (.int (2 : Int32))] []))
    refine Good.back (fun _ k => XS.aloadN X0.here hx rfl (hb hby own_d1_13) rfl rfl k) ?_
    show Good p e below _ (s₁.setTop (mkF m 14 #[.val (.ref r0), .val (.long q1), .second, .val (.int p2), .val (.int (2 : Int32))] [(.ref r0)]))
    refine Good.back (fun _ k => XS.iload X0.here hx rfl (hb hby own_d1_14) rfl k) ?_
    show Good p e below _ (s₁.setTop (mkF m 16 #[.val (.ref r0), .val (.long q1), .second, .val (.int p2), .val (.int (2 : Int32))] [(.int (2 : Int32)), (.ref r0)]))
    refine Good.back (fun _ k => Jvm.Free.XT.dup2 X0.here hx rfl (hb hby own_d1_16) rfl rfl rfl k) ?_
    show Good p e below _ (s₁.setTop (mkF m 17 #[.val (.ref r0), .val (.long q1), .second, .val (.int p2), .val (.int (2 : Int32))] [(.int (2 : Int32)), (.ref r0), (.int (2 : Int32)), (.ref r0)]))
    have fc32 := V0
    obtain ⟨cl32, Ar32, qk32, S32, N32', H32, G32⟩ := fc32
    have hin32 : ¬ ((2 : Int32) < 0 ∨ cl32.slots.size ≤ ((2 : Int32)).toNatClampNeg) := inb_of S32 ⟨by decide, by decide⟩
    have hat32 : cl32.slots[((2 : Int32)).toNatClampNeg]? = some (.long u2) := Has.at H32 hin32 rfl
    refine Good.back (X0.laload hx (j := (2 : Int32)) (v := (.long u2)) (by rw [e0]; exact Ar32.1) (State.isArrayOf_alike hZ.alike Ar32.2.1) Ar32.2.2 hin32 hat32 (g := (mkF m 17 #[.val (.ref r0), .val (.long q1), .second, .val (.int p2), .val (.int (2 : Int32))] [(.int (2 : Int32)), (.ref r0), (.int (2 : Int32)), (.ref r0)])) rfl rfl (hb hby own_d1_17)) ?_
    show Good p e below _ (s₁.setTop (mkF m 18 #[.val (.ref r0), .val (.long q1), .second, .val (.int p2), .val (.int (2 : Int32))] [(.long u2), (.int (2 : Int32)), (.ref r0)]))
    refine Good.back (fun _ k => XS.lloadN X0.here hx rfl (hb hby own_d1_18) rfl k) ?_
    show Good p e below _ (s₁.setTop (mkF m 19 #[.val (.ref r0), .val (.long q1), .second, .val (.int p2), .val (.int (2 : Int32))] [(.long q1), (.long u2), (.int (2 : Int32)), (.ref r0)]))
    refine Good.back (fun _ k => XS.iloadN X0.here hx rfl (hb hby own_d1_19) rfl k) ?_
    show Good p e below _ (s₁.setTop (mkF m 20 #[.val (.ref r0), .val (.long q1), .second, .val (.int p2), .val (.int (2 : Int32))] [(.int p2), (.long q1), (.long u2), (.int (2 : Int32)), (.ref r0)]))
    refine Good.back (fun _ k => XS.lshl X0.here hx rfl (hb hby own_d1_20) rfl k) ?_
    show Good p e below _ (s₁.setTop (mkF m 21 #[.val (.ref r0), .val (.long q1), .second, .val (.int p2), .val (.int (2 : Int32))] [(.long (q1 <<< (p2 &&& 0x3f).toInt64)), (.long u2), (.int (2 : Int32)), (.ref r0)]))
    refine Good.back (fun _ k => XS.lor X0.here hx rfl (hb hby own_d1_21) rfl k) ?_
    show Good p e below _ (s₁.setTop (mkF m 22 #[.val (.ref r0), .val (.long q1), .second, .val (.int p2), .val (.int (2 : Int32))] [(.long (u2 ||| (q1 <<< (p2 &&& 0x3f).toInt64))), (.int (2 : Int32)), (.ref r0)]))
    have fc33 := V0
    obtain ⟨cl33, Ar33, qk33, S33, N33', H33, G33⟩ := fc33
    have hin33 : ¬ ((2 : Int32) < 0 ∨ cl33.slots.size ≤ ((2 : Int32)).toNatClampNeg) := inb_of S33 ⟨by decide, by decide⟩
    obtain ⟨T33, h33, X33, e33, W33, st33⟩ := stJ X0 hx hZ e0 Ar33 (j := (2 : Int32)) hin33 (g := (mkF m 22 #[.val (.ref r0), .val (.long q1), .second, .val (.int p2), .val (.int (2 : Int32))] [(.long (u2 ||| (q1 <<< (p2 &&& 0x3f).toInt64))), (.int (2 : Int32)), (.ref r0)])) rfl rfl (hb hby own_d1_22)
    refine Good.back st33 ?_
    have f_34 : Arv Z h33 r0 kk .long (3 : Int32) [(.long u0), (.long u1), (.long (u2 ||| (q1 <<< (p2 &&& 0x3f).toInt64)))] (.long (0 : Int64)) := Arv.set Ar33 qk33 S33 N33' H33 G33 rfl W33 2 rfl (Nat.le_of_ble_eq_true rfl)
    have N33 := Fr.snoc X33 N0 g0
    have Z35 : n0 ≤ h33.size := Nat.le_trans Z0 (Keep.of_wr W33).1
    have K36 : Keep h0 h33 [r0] := KR.wr W33 (Or.inl (List.mem_of_getElem? (i := 0) rfl))
    show Good p e below _ (T33.setTop (mkF m 23 #[.val (.ref r0), .val (.long q1), .second, .val (.int p2), .val (.int (2 : Int32))] []))
    refine Good.back (fun _ k => XS.iloadN X33.here hx rfl (hb hby own_d1_23) rfl k) ?_
    show Good p e below _ (T33.setTop (mkF m 24 #[.val (.ref r0), .val (.long q1), .second, .val (.int p2), .val (.int (2 : Int32))] [(.int p2)]))
    refine Good.back (fun _ k => XS.bipush X33.here hx rfl (hb hby own_d1_24) k) ?_
    show Good p e below _ (T33.setTop (mkF m 26 #[.val (.ref r0), .val (.long q1), .second, .val (.int p2), .val (.int (2 : Int32))] [(.int (64 : Int32)), (.int p2)]))
    refine Good.back (fun _ k => iremM (g := (mkF m 26 #[.val (.ref r0), .val (.long q1), .second, .val (.int p2), .val (.int (2 : Int32))] [(.int (64 : Int32)), (.int p2)])) X33 hx rfl (hb hby own_d1_26) rfl (by decide) k) ?_
    show Good p e below _ (T33.setTop (mkF m 27 #[.val (.ref r0), .val (.long q1), .second, .val (.int p2), .val (.int (2 : Int32))] [(.int (p2 % (64 : Int32)))]))
    by_cases hc27_37 : (p2 % (64 : Int32)) = (0 : Int32)
    · refine Good.back (fun _ k => XS.ifYes X33.here hx rfl (pc0 := 27) (pc' := 57) rfl (hb hby own_d1_27) rfl ((if0 _ _).trans (teq hc27_37).1) (by decide) (by decide) k) ?_
      show Good p e below _ (T33.setTop (mkF m 57 #[.val (.ref r0), .val (.long q1), .second, .val (.int p2), .val (.int (2 : Int32))] []))
      obtain ⟨fs38, hr38, hrun38, hended38, hW38, hsame38⟩ := X33.leave (v := none) (fun _ => rfl)
      refine Good.done (X33.returnOut hx Bd.returns (hb hby own_d1_57) hr38) hrun38 hended38 ⟨_, _, rfl, ?_, ⟨_, rfl⟩, hW38, hsame38.mono (by decide) (by decide)⟩
      show Q1_3 Z r0 q1 p2 kk u0 u1 u2 h0 n0 _ T33.heap _
      rw [e33]
      have hr0 : p2.toInt % 64 = 0 := by rw [← hrem, hc27_37]; rfl
      have eu0 : own_upd 0 u0 q1 p2 = u0 := by rw [own_upd, if_neg (by omega), if_neg (by omega)]
      have eu1 : own_upd 1 u1 q1 p2 = u1 := by rw [own_upd, if_neg (by omega), if_neg (by omega)]
      have eu2 : own_upd 2 u2 q1 p2 = (u2 ||| (q1 <<< (p2 &&& 0x3f).toInt64)) := by rw [own_upd, if_pos hk]
      refine ⟨rfl, N33, K36, ?_⟩
      rw [eu0, eu1, eu2]
      exact f_34
    · refine Good.back (fun _ k => XS.ifNo X33.here hx rfl (hb hby own_d1_27) rfl ((if0 _ _).trans (feq hc27_37).1) k) ?_
      show Good p e below _ (T33.setTop (mkF m 30 #[.val (.ref r0), .val (.long q1), .second, .val (.int p2), .val (.int (2 : Int32))] []))
      refine Good.back (fun _ k => XS.iload X33.here hx rfl (hb hby own_d1_30) rfl k) ?_
      show Good p e below _ (T33.setTop (mkF m 32 #[.val (.ref r0), .val (.long q1), .second, .val (.int p2), .val (.int (2 : Int32))] [(.int (2 : Int32))]))
      refine Good.back (fun _ k => XS.iconst X33.here hx rfl (hb hby own_d1_32) k) ?_
      show Good p e below _ (T33.setTop (mkF m 33 #[.val (.ref r0), .val (.long q1), .second, .val (.int p2), .val (.int (2 : Int32))] [(.int (1 : Int32)), (.int (2 : Int32))]))
      refine Good.back (fun _ k => XS.iadd X33.here hx rfl (hb hby own_d1_33) rfl k) ?_
      show Good p e below _ (T33.setTop (mkF m 34 #[.val (.ref r0), .val (.long q1), .second, .val (.int p2), .val (.int (2 : Int32))] [(.int ((2 : Int32) + (1 : Int32)))]))
      rw [show (((2 : Int32) + (1 : Int32)) : Int32) = (3 : Int32) from by decide]
      show Good p e below _ (T33.setTop (mkF m 34 #[.val (.ref r0), .val (.long q1), .second, .val (.int p2), .val (.int (2 : Int32))] [(.int (3 : Int32))]))
      refine Good.back (fun _ k => XS.aloadN X33.here hx rfl (hb hby own_d1_34) rfl rfl k) ?_
      show Good p e below _ (T33.setTop (mkF m 35 #[.val (.ref r0), .val (.long q1), .second, .val (.int p2), .val (.int (2 : Int32))] [(.ref r0), (.int (3 : Int32))]))
      have fc39 := f_34
      obtain ⟨cl39, Ar39, qk39, S39, N39', H39, G39⟩ := fc39
      refine Good.back (X33.arraylength hx (by rw [e33]; exact Ar39.1) (State.isArrayOf_alike hZ.alike Ar39.2.1) (g := (mkF m 35 #[.val (.ref r0), .val (.long q1), .second, .val (.int p2), .val (.int (2 : Int32))] [(.ref r0), (.int (3 : Int32))])) rfl rfl (hb hby own_d1_35)) ?_
      rw [len_of S39 N39']
      show Good p e below _ (T33.setTop (mkF m 36 #[.val (.ref r0), .val (.long q1), .second, .val (.int p2), .val (.int (2 : Int32))] [(.int (3 : Int32)), (.int (3 : Int32))]))
      refine Good.back (fun _ k => XS.icmpYes X33.here hx rfl (pc0 := 36) (pc' := 57) rfl (hb hby own_d1_36) rfl (flt (by decide : ¬ ((3 : Int32) < (3 : Int32)))).2.1 (by decide) (by decide) k) ?_
      show Good p e below _ (T33.setTop (mkF m 57 #[.val (.ref r0), .val (.long q1), .second, .val (.int p2), .val (.int (2 : Int32))] []))
      obtain ⟨fs40, hr40, hrun40, hended40, hW40, hsame40⟩ := X33.leave (v := none) (fun _ => rfl)
      refine Good.done (X33.returnOut hx Bd.returns (hb hby own_d1_57) hr40) hrun40 hended40 ⟨_, _, rfl, ?_, ⟨_, rfl⟩, hW40, hsame40.mono (by decide) (by decide)⟩
      show Q1_3 Z r0 q1 p2 kk u0 u1 u2 h0 n0 _ T33.heap _
      rw [e33]
      have hr0 : ¬ p2.toInt % 64 = 0 := fun q => hc27_37 (Int32.toInt_inj.mp (by rw [hrem, q]; rfl))
      have eu0 : own_upd 0 u0 q1 p2 = u0 := by rw [own_upd, if_neg (by omega), if_neg (by omega)]
      have eu1 : own_upd 1 u1 q1 p2 = u1 := by rw [own_upd, if_neg (by omega), if_neg (by omega)]
      have eu2 : own_upd 2 u2 q1 p2 = (u2 ||| (q1 <<< (p2 &&& 0x3f).toInt64)) := by rw [own_upd, if_pos hk]
      refine ⟨rfl, N33, K36, ?_⟩
      rw [eu0, eu1, eu2]
      exact f_34
  · have hfar := hk
    show Good p e below _ (s₁.setTop (mkF m 6 #[.val (.ref r0), .val (.long q1), .second, .val (.int p2), .val (.int (p2 / (64 : Int32)))] []))
    refine Good.back (fun _ k => XS.iload X0.here hx rfl (hb hby own_d1_6) rfl k) ?_
    show Good p e below _ (s₁.setTop (mkF m 8 #[.val (.ref r0), .val (.long q1), .second, .val (.int p2), .val (.int (p2 / (64 : Int32)))] [(.int (p2 / (64 : Int32)))]))
    refine Good.back (fun _ k => XS.aloadN X0.here hx rfl (hb hby own_d1_8) rfl rfl k) ?_
    show Good p e below _ (s₁.setTop (mkF m 9 #[.val (.ref r0), .val (.long q1), .second, .val (.int p2), .val (.int (p2 / (64 : Int32)))] [(.ref r0), (.int (p2 / (64 : Int32)))]))
    have fc41 := V0
    obtain ⟨cl41, Ar41, qk41, S41, N41', H41, G41⟩ := fc41
    refine Good.back (X0.arraylength hx (by rw [e0]; exact Ar41.1) (State.isArrayOf_alike hZ.alike Ar41.2.1) (g := (mkF m 9 #[.val (.ref r0), .val (.long q1), .second, .val (.int p2), .val (.int (p2 / (64 : Int32)))] [(.ref r0), (.int (p2 / (64 : Int32)))])) rfl rfl (hb hby own_d1_9)) ?_
    rw [len_of S41 N41']
    show Good p e below _ (s₁.setTop (mkF m 10 #[.val (.ref r0), .val (.long q1), .second, .val (.int p2), .val (.int (p2 / (64 : Int32)))] [(.int (3 : Int32)), (.int (p2 / (64 : Int32)))]))
    refine Good.back (fun _ k => XS.icmpYes X0.here hx rfl (pc0 := 10) (pc' := 57) rfl (hb hby own_d1_10) rfl (flt (by rw [Int32.lt_iff_toInt_lt, hdiv]; show ¬ (_ < (3 : Int)); omega)).2.1 (by decide) (by decide) k) ?_
    show Good p e below _ (s₁.setTop (mkF m 57 #[.val (.ref r0), .val (.long q1), .second, .val (.int p2), .val (.int (p2 / (64 : Int32)))] []))
    obtain ⟨fs42, hr42, hrun42, hended42, hW42, hsame42⟩ := X0.leave (v := none) (fun _ => rfl)
    refine Good.done (X0.returnOut hx Bd.returns (hb hby own_d1_57) hr42) hrun42 hended42 ⟨_, _, rfl, ?_, ⟨_, rfl⟩, hW42, hsame42.mono (by decide) (by decide)⟩
    show Q1_3 Z r0 q1 p2 kk u0 u1 u2 h0 n0 _ s₁.heap _
    rw [e0]
    have eu0 : own_upd 0 u0 q1 p2 = u0 := by rw [own_upd, if_neg (by omega), if_neg (by omega)]
    have eu1 : own_upd 1 u1 q1 p2 = u1 := by rw [own_upd, if_neg (by omega), if_neg (by omega)]
    have eu2 : own_upd 2 u2 q1 p2 = u2 := by rw [own_upd, if_neg (by omega), if_neg (by omega)]
    refine ⟨rfl, N0, KR, ?_⟩
    rw [eu0, eu1, eu2]
    exact V0
theorem own_pd62 : parseMethodDescriptor "([JJI)V" = some ⟨[(.array .long), .long, .int], none⟩ := by decide +kernel
theorem own_pd63 : parseMethodDescriptor "(JI)J" = some ⟨[.long, .int], some .long⟩ := by decide +kernel
theorem own_ef_0 (m : MethodId) (x0 : Int64) (x1 : Int64) (x2 : Int64) (x3 : Int64) (x4 : Int32) (x5 : Int32) : entryFrame m #[(.long x0), (.long x1), (.long x2), (.long x3), (.int x4), (.int x5)] maxLocals = mkF m 0 #[.val (.long x0), .second, .val (.long x1), .second, .val (.long x2), .second, .val (.long x3), .second, .val (.int x4), .val (.int x5), .unset, .unset, .unset, .unset] [] := by first | (simp [entryFrame, mkF, argsToLocals, Value.category, maxLocals]; done) | rfl
def Q0 (Z : State) (q0 : Int64) (q1 : Int64) (q2 : Int64) (q3 : Int64) (p4 : Int32) (p5 : Int32) (h0 : Heap) (n0 : Nat) (v : Option Value) (h : Heap) (L : List Loc) : Prop := v = some (.int 1) ∧ Fr n0 L
set_option maxRecDepth 65536 in
set_option maxHeartbeats 40000000 in
theorem rm0 (l : Launch) (Z : State) (a0 : Array Value) (hw : ∀ d ∈ tables_1, d.before a0 Z = true) (ws : List Jvm.Cond) (q0 : Int64) (q1 : Int64) (q2 : Int64) (q3 : Int64) (p4 : Int32) (p5 : Int32) (h0 : Heap) (n0 : Nat) (Z0 : n0 ≤ h0.size)  :
    MetFree l x (head1 (Jvm.Cond.code x code maxLocals ret :: ws) room_1) (fun a U => a = #[(.long q0), (.long q1), (.long q2), (.long q3), (.int p4), (.int p5)] ∧ Z.Warmed39 U.vm ∧ U.heap = h0) (fun _ _ _ _ _ => True) (fun _ U o U' => ∃ v L, o = .returned v ∧ Q0 Z q0 q1 q2 q3 p4 p5 h0 n0 v U'.heap L ∧ FrameEnd U o U' L 16 128) := by
  refine MetFree.of_bodySF (plainFor_of_name own_pn0) hisR ?_
  intro p e s m args below meth c s₁ Bd hml0 hP hK
  obtain ⟨rfl, hZ, hh⟩ := hP
  have hx := Bd.exec
  have hby := Bd.bytes
  have hml : c.maxLocals = 14 := hml0
  have hown : s.vm.findClass "com/example/fradno/fradno/core/CellSetOrPinLaw" = some m.cls := findClass_of_methodNamed Bd.named
  have hnm := (name_of_methodNamed Bd.named Bd.method).1
  have X0 : Stand p l e room_1 s m #[(.long q0), (.long q1), (.long q2), (.long q3), (.int p4), (.int p5)] below meth c s₁ [] 0 0 := Stand.of_body Bd
  have e0 : s₁.heap = h0 := by rw [← hh, Bd.state]; rfl
  have N0 := Fr.nil n0
  show Good p e below (fun o U' => ∃ v L, o = .returned v ∧ Q0 Z q0 q1 q2 q3 p4 p5 h0 n0 v U'.heap L ∧ FrameEnd s o U' L 16 128) _
  refine Good.back (S' := s₁.setTop (mkF m 0 #[.val (.long q0), .second, .val (.long q1), .second, .val (.long q2), .second, .val (.long q3), .second, .val (.int p4), .val (.int p5), .unset, .unset, .unset, .unset] [])) (fun t k => castTop (own_ef_0 m q0 q1 q2 q3 p4 p5) k) ?_
  show Good p e below _ (s₁.setTop (mkF m 0 #[.val (.long q0), .second, .val (.long q1), .second, .val (.long q2), .second, .val (.long q3), .second, .val (.int p4), .val (.int p5), .unset, .unset, .unset, .unset] []))
  refine Good.back (fun _ k => XS.iload X0.here hx rfl (hb hby at_0) rfl k) ?_
  show Good p e below _ (s₁.setTop (mkF m 2 #[.val (.long q0), .second, .val (.long q1), .second, .val (.long q2), .second, .val (.long q3), .second, .val (.int p4), .val (.int p5), .unset, .unset, .unset, .unset] [(.int p5)]))
  refine Good.back (fun _ k => XS.iconst X0.here hx rfl (hb hby at_2) k) ?_
  show Good p e below _ (s₁.setTop (mkF m 3 #[.val (.long q0), .second, .val (.long q1), .second, .val (.long q2), .second, .val (.long q3), .second, .val (.int p4), .val (.int p5), .unset, .unset, .unset, .unset] [(.int (1 : Int32)), (.int p5)]))
  refine Good.back (fun _ k => XS.iushr X0.here hx rfl (hb hby at_3) rfl k) ?_
  show Good p e below _ (s₁.setTop (mkF m 4 #[.val (.long q0), .second, .val (.long q1), .second, .val (.long q2), .second, .val (.long q3), .second, .val (.int p4), .val (.int p5), .unset, .unset, .unset, .unset] [(.int ((p5.toUInt32 >>> ((1 : Int32) &&& 31).toUInt32).toInt32))]))
  refine Good.back (fun _ k => XS.iconst X0.here hx rfl (hb hby at_4) k) ?_
  show Good p e below _ (s₁.setTop (mkF m 5 #[.val (.long q0), .second, .val (.long q1), .second, .val (.long q2), .second, .val (.long q3), .second, .val (.int p4), .val (.int p5), .unset, .unset, .unset, .unset] [(.int (3 : Int32)), (.int ((p5.toUInt32 >>> ((1 : Int32) &&& 31).toUInt32).toInt32))]))
  refine Good.back (fun _ k => XS.iand X0.here hx rfl (hb hby at_5) rfl k) ?_
  show Good p e below _ (s₁.setTop (mkF m 6 #[.val (.long q0), .second, .val (.long q1), .second, .val (.long q2), .second, .val (.long q3), .second, .val (.int p4), .val (.int p5), .unset, .unset, .unset, .unset] [(.int (((p5.toUInt32 >>> ((1 : Int32) &&& 31).toUInt32).toInt32) &&& (3 : Int32)))]))
  refine Good.back (fun _ k => XS.istore X0.here hx rfl (hb hby at_6) rfl (l' := #[.val (.long q0), .second, .val (.long q1), .second, .val (.long q2), .second, .val (.long q3), .second, .val (.int p4), .val (.int p5), .val (.int (((p5.toUInt32 >>> ((1 : Int32) &&& 31).toUInt32).toInt32) &&& (3 : Int32))), .unset, .unset, .unset]) rfl k) ?_
  show Good p e below _ (s₁.setTop (mkF m 8 #[.val (.long q0), .second, .val (.long q1), .second, .val (.long q2), .second, .val (.long q3), .second, .val (.int p4), .val (.int p5), .val (.int (((p5.toUInt32 >>> ((1 : Int32) &&& 31).toUInt32).toInt32) &&& (3 : Int32))), .unset, .unset, .unset] []))
  obtain ⟨k1, hk1, he1⟩ := own_mask (x := ((p5.toUInt32 >>> ((1 : Int32) &&& 31).toUInt32).toInt32)) (m := 3) (n := 4) (by decide) (by decide)
  rcases (by omega : k1 = 0 ∨ k1 = 1 ∨ k1 = 2 ∨ k1 = 3) with rfl | rfl | rfl | rfl
  · have he1' : (((p5.toUInt32 >>> ((1 : Int32) &&& 31).toUInt32).toInt32) &&& (3 : Int32)) = (0 : Int32) := he1
    rw [he1']
    show Good p e below _ (s₁.setTop (mkF m 8 #[.val (.long q0), .second, .val (.long q1), .second, .val (.long q2), .second, .val (.long q3), .second, .val (.int p4), .val (.int p5), .val (.int (0 : Int32)), .unset, .unset, .unset] []))
    refine Good.back (fun _ k => XS.iload X0.here hx rfl (hb hby at_8) rfl k) ?_
    show Good p e below _ (s₁.setTop (mkF m 10 #[.val (.long q0), .second, .val (.long q1), .second, .val (.long q2), .second, .val (.long q3), .second, .val (.int p4), .val (.int p5), .val (.int (0 : Int32)), .unset, .unset, .unset] [(.int p5)]))
    refine Good.back (fun _ k => XS.iconst X0.here hx rfl (hb hby at_10) k) ?_
    show Good p e below _ (s₁.setTop (mkF m 11 #[.val (.long q0), .second, .val (.long q1), .second, .val (.long q2), .second, .val (.long q3), .second, .val (.int p4), .val (.int p5), .val (.int (0 : Int32)), .unset, .unset, .unset] [(.int (1 : Int32)), (.int p5)]))
    refine Good.back (fun _ k => XS.iand X0.here hx rfl (hb hby at_11) rfl k) ?_
    show Good p e below _ (s₁.setTop (mkF m 12 #[.val (.long q0), .second, .val (.long q1), .second, .val (.long q2), .second, .val (.long q3), .second, .val (.int p4), .val (.int p5), .val (.int (0 : Int32)), .unset, .unset, .unset] [(.int (p5 &&& (1 : Int32)))]))
    by_cases hc12_2 : (p5 &&& (1 : Int32)) = (0 : Int32)
    · refine Good.back (fun _ k => XS.ifYes X0.here hx rfl (pc0 := 12) (pc' := 24) rfl (hb hby at_12) rfl ((if0 _ _).trans (teq hc12_2).1) (by decide) (by decide) k) ?_
      show Good p e below _ (s₁.setTop (mkF m 24 #[.val (.long q0), .second, .val (.long q1), .second, .val (.long q2), .second, .val (.long q3), .second, .val (.int p4), .val (.int p5), .val (.int (0 : Int32)), .unset, .unset, .unset] []))
      refine Good.back (fun _ k => XS.iload X0.here hx rfl (hb hby at_24) rfl k) ?_
      show Good p e below _ (s₁.setTop (mkF m 26 #[.val (.long q0), .second, .val (.long q1), .second, .val (.long q2), .second, .val (.long q3), .second, .val (.int p4), .val (.int p5), .val (.int (0 : Int32)), .unset, .unset, .unset] [(.int p4)]))
      refine Good.back (X0.ldcInt hx hown (mvT hZ (hw _ (List.mem_of_getElem? (i := 0) rfl))) (g := (mkF m 26 #[.val (.long q0), .second, .val (.long q1), .second, .val (.long q2), .second, .val (.long q3), .second, .val (.int p4), .val (.int p5), .val (.int (0 : Int32)), .unset, .unset, .unset] [(.int p4)])) rfl (hb hby at_26)) ?_
      show Good p e below _ (s₁.setTop (mkF m 28 #[.val (.long q0), .second, .val (.long q1), .second, .val (.long q2), .second, .val (.long q3), .second, .val (.int p4), .val (.int p5), .val (.int (0 : Int32)), .unset, .unset, .unset] [(.int (2147483647 : Int32)), (.int p4)]))
      refine Good.back (fun _ k => XS.iand X0.here hx rfl (hb hby at_28) rfl k) ?_
      show Good p e below _ (s₁.setTop (mkF m 29 #[.val (.long q0), .second, .val (.long q1), .second, .val (.long q2), .second, .val (.long q3), .second, .val (.int p4), .val (.int p5), .val (.int (0 : Int32)), .unset, .unset, .unset] [(.int (p4 &&& (2147483647 : Int32)))]))
      refine Good.back (fun _ k => XS.istore X0.here hx rfl (hb hby at_29) rfl (l' := #[.val (.long q0), .second, .val (.long q1), .second, .val (.long q2), .second, .val (.long q3), .second, .val (.int p4), .val (.int p5), .val (.int (0 : Int32)), .val (.int (p4 &&& (2147483647 : Int32))), .unset, .unset]) rfl k) ?_
      show Good p e below _ (s₁.setTop (mkF m 31 #[.val (.long q0), .second, .val (.long q1), .second, .val (.long q2), .second, .val (.long q3), .second, .val (.int p4), .val (.int p5), .val (.int (0 : Int32)), .val (.int (p4 &&& (2147483647 : Int32))), .unset, .unset] []))
      obtain ⟨stt, hstt⟩ : ∃ z, z = (p4 &&& (2147483647 : Int32)) := ⟨_, rfl⟩
      rw [← hstt]
      have hst : 0 ≤ stt.toInt := by rw [hstt]; exact (c_and _ _ (by decide)).1
      show Good p e below _ (s₁.setTop (mkF m 31 #[.val (.long q0), .second, .val (.long q1), .second, .val (.long q2), .second, .val (.long q3), .second, .val (.int p4), .val (.int p5), .val (.int (0 : Int32)), .val (.int stt), .unset, .unset] []))
      refine Good.back (fun _ k => XS.iload X0.here hx rfl (hb hby at_31) rfl k) ?_
      show Good p e below _ (s₁.setTop (mkF m 33 #[.val (.long q0), .second, .val (.long q1), .second, .val (.long q2), .second, .val (.long q3), .second, .val (.int p4), .val (.int p5), .val (.int (0 : Int32)), .val (.int stt), .unset, .unset] [(.int (0 : Int32))]))
      obtain ⟨T3, h3, k3, X3, e3, E3, A3, st3⟩ := newP X0 hx hZ (hw _ (List.mem_of_getElem? (i := 1) rfl)) e0 (g := (mkF m 33 #[.val (.long q0), .second, .val (.long q1), .second, .val (.long q2), .second, .val (.long q3), .second, .val (.int p4), .val (.int p5), .val (.int (0 : Int32)), .val (.int stt), .unset, .unset] [(.int (0 : Int32))])) rfl (hb hby at_33) rfl (by decide) (cap := 0) (by decide) (by decide) (by decide) (by decide)
      obtain ⟨b3, g3⟩ : ∃ z, z = h0.size := ⟨_, rfl⟩
      rw [← g3] at A3 st3
      refine Good.back st3 ?_
      have g_b3 : n0 ≤ b3 := Nat.le_trans Z0 (Nat.le_of_eq g3.symm)
      have Z4 : n0 ≤ h3.size := Nat.le_trans Z0 E3.1
      have f_5 : Arv Z h3 b3 k3 .long (0 : Int32) [] (.long (0 : Int64)) := (Arv.new A3 (by decide)).pad (pad_rep [] (.long (0 : Int64)) 0)
      show Good p e below _ (T3.setTop (mkF m 35 #[.val (.long q0), .second, .val (.long q1), .second, .val (.long q2), .second, .val (.long q3), .second, .val (.int p4), .val (.int p5), .val (.int (0 : Int32)), .val (.int stt), .unset, .unset] [(.ref b3)]))
      refine Good.back (fun _ k => XS.astore X3.here hx rfl (hb hby at_35) rfl rfl (l' := #[.val (.long q0), .second, .val (.long q1), .second, .val (.long q2), .second, .val (.long q3), .second, .val (.int p4), .val (.int p5), .val (.int (0 : Int32)), .val (.int stt), .val (.ref b3), .unset]) rfl k) ?_
      show Good p e below _ (T3.setTop (mkF m 37 #[.val (.long q0), .second, .val (.long q1), .second, .val (.long q2), .second, .val (.long q3), .second, .val (.int p4), .val (.int p5), .val (.int (0 : Int32)), .val (.int stt), .val (.ref b3), .unset] []))
      refine Good.back (fun _ k => XS.iload X3.here hx rfl (hb hby at_37) rfl k) ?_
      show Good p e below _ (T3.setTop (mkF m 39 #[.val (.long q0), .second, .val (.long q1), .second, .val (.long q2), .second, .val (.long q3), .second, .val (.int p4), .val (.int p5), .val (.int (0 : Int32)), .val (.int stt), .val (.ref b3), .unset] [(.int (0 : Int32))]))
      refine Good.back (fun _ k => XS.ifYes X3.here hx rfl (pc0 := 39) (pc' := 47) rfl (hb hby at_39) rfl ((if0 _ _).trans (flt (by decide : ¬ ((0 : Int32) < (0 : Int32)))).2.2.2) (by decide) (by decide) k) ?_
      show Good p e below _ (T3.setTop (mkF m 47 #[.val (.long q0), .second, .val (.long q1), .second, .val (.long q2), .second, .val (.long q3), .second, .val (.int p4), .val (.int p5), .val (.int (0 : Int32)), .val (.int stt), .val (.ref b3), .unset] []))
      refine Good.back (fun _ k => XS.iload X3.here hx rfl (hb hby at_47) rfl k) ?_
      show Good p e below _ (T3.setTop (mkF m 49 #[.val (.long q0), .second, .val (.long q1), .second, .val (.long q2), .second, .val (.long q3), .second, .val (.int p4), .val (.int p5), .val (.int (0 : Int32)), .val (.int stt), .val (.ref b3), .unset] [(.int (0 : Int32))]))
      refine Good.back (fun _ k => XS.iconst X3.here hx rfl (hb hby at_49) k) ?_
      show Good p e below _ (T3.setTop (mkF m 50 #[.val (.long q0), .second, .val (.long q1), .second, .val (.long q2), .second, .val (.long q3), .second, .val (.int p4), .val (.int p5), .val (.int (0 : Int32)), .val (.int stt), .val (.ref b3), .unset] [(.int (1 : Int32)), (.int (0 : Int32))]))
      refine Good.back (fun _ k => XS.icmpYes X3.here hx rfl (pc0 := 50) (pc' := 58) rfl (hb hby at_50) rfl (flt (by decide : ¬ ((1 : Int32) < (0 : Int32)))).2.2.2 (by decide) (by decide) k) ?_
      show Good p e below _ (T3.setTop (mkF m 58 #[.val (.long q0), .second, .val (.long q1), .second, .val (.long q2), .second, .val (.long q3), .second, .val (.int p4), .val (.int p5), .val (.int (0 : Int32)), .val (.int stt), .val (.ref b3), .unset] []))
      refine Good.back (fun _ k => XS.iload X3.here hx rfl (hb hby at_58) rfl k) ?_
      show Good p e below _ (T3.setTop (mkF m 60 #[.val (.long q0), .second, .val (.long q1), .second, .val (.long q2), .second, .val (.long q3), .second, .val (.int p4), .val (.int p5), .val (.int (0 : Int32)), .val (.int stt), .val (.ref b3), .unset] [(.int (0 : Int32))]))
      refine Good.back (fun _ k => XS.iconst X3.here hx rfl (hb hby at_60) k) ?_
      show Good p e below _ (T3.setTop (mkF m 61 #[.val (.long q0), .second, .val (.long q1), .second, .val (.long q2), .second, .val (.long q3), .second, .val (.int p4), .val (.int p5), .val (.int (0 : Int32)), .val (.int stt), .val (.ref b3), .unset] [(.int (2 : Int32)), (.int (0 : Int32))]))
      refine Good.back (fun _ k => XS.icmpYes X3.here hx rfl (pc0 := 61) (pc' := 70) rfl (hb hby at_61) rfl (flt (by decide : ¬ ((2 : Int32) < (0 : Int32)))).2.2.2 (by decide) (by decide) k) ?_
      show Good p e below _ (T3.setTop (mkF m 70 #[.val (.long q0), .second, .val (.long q1), .second, .val (.long q2), .second, .val (.long q3), .second, .val (.int p4), .val (.int p5), .val (.int (0 : Int32)), .val (.int stt), .val (.ref b3), .unset] []))
      refine Good.back (fun _ k => XS.aload X3.here hx rfl (hb hby at_70) rfl rfl k) ?_
      show Good p e below _ (T3.setTop (mkF m 72 #[.val (.long q0), .second, .val (.long q1), .second, .val (.long q2), .second, .val (.long q3), .second, .val (.int p4), .val (.int p5), .val (.int (0 : Int32)), .val (.int stt), .val (.ref b3), .unset] [(.ref b3)]))
      refine Good.back (fun _ k => XS.lload X3.here hx rfl (hb hby at_72) rfl k) ?_
      show Good p e below _ (T3.setTop (mkF m 74 #[.val (.long q0), .second, .val (.long q1), .second, .val (.long q2), .second, .val (.long q3), .second, .val (.int p4), .val (.int p5), .val (.int (0 : Int32)), .val (.int stt), .val (.ref b3), .unset] [(.long q3), (.ref b3)]))
      refine Good.back (fun _ k => XS.iload X3.here hx rfl (hb hby at_74) rfl k) ?_
      show Good p e below _ (T3.setTop (mkF m 76 #[.val (.long q0), .second, .val (.long q1), .second, .val (.long q2), .second, .val (.long q3), .second, .val (.int p4), .val (.int p5), .val (.int (0 : Int32)), .val (.int stt), .val (.ref b3), .unset] [(.int stt), (.long q3), (.ref b3)]))
      obtain ⟨_, _, ⟨T6, L6, k6, n6⟩, -, X6, ⟨Lc6, hQ6, l6, y6, z6⟩, st6⟩ := Jvm.LawKit.callS X3 hx (y := (⟨"com/example/fradno/fradno/core/CellSet", "or", "([JJI)V"⟩ : MethodName)) hown (mvT hZ (hw _ (List.mem_of_getElem? (i := 2) rfl))) (mvT hZ (hw _ (List.mem_of_getElem? (i := 3) rfl))) (mvT hZ (hw _ (List.mem_of_getElem? (i := 4) rfl))) (mvT hZ (hw _ (List.mem_of_getElem? (i := 5) rfl))) (by decide) (backOf (W := 0) (rm1_0 l Z a0 hw [] b3 q3 stt k3 h3 n0 Z4 f_5 g_b3 (hst)) hZ (hw _ (List.mem_of_getElem? (i := 5) rfl)) (hw _ (List.mem_of_getElem? (i := 4) rfl)) (by decide) (by decide)) (g := (mkF m 76 #[.val (.long q0), .second, .val (.long q1), .second, .val (.long q2), .second, .val (.long q3), .second, .val (.int p4), .val (.int p5), .val (.int (0 : Int32)), .val (.int stt), .val (.ref b3), .unset] [(.int stt), (.long q3), (.ref b3)])) rfl (by rw [hml]; rfl) (argsL := [(.ref b3), (.long q3), (.int stt)]) (rest := []) (lenOf own_pd62 rfl) rfl (by show 2 * 0 + _ ≤ _; exact Nat.le_of_eq rfl) (hb hby at_76) (fun _ _ => ⟨rfl, e3, (by decide : 1 + 0 ≤ _), (by decide : 0 + 0 ≤ _)⟩)
      dsimp only [Pt.U, Pt.locs, Pt.cells, Pt.slots] at X6 l6 y6 z6 st6 hQ6
      subst l6 y6 z6
      obtain ⟨rfl, N6q, Kq6, o6_0⟩ := hQ6
      have N6 := Fr.app N0 N6q
      have Z7 : n0 ≤ T6.heap.size := Nat.le_trans Z4 Kq6.1
      refine Good.back st6 ?_
      show Good p e below _ (T6.setTop (mkF m 79 #[.val (.long q0), .second, .val (.long q1), .second, .val (.long q2), .second, .val (.long q3), .second, .val (.int p4), .val (.int p5), .val (.int (0 : Int32)), .val (.int stt), .val (.ref b3), .unset] []))
      refine Good.back (fun _ k => XS.iconst X6.here hx rfl (hb hby at_79) k) ?_
      show Good p e below _ (T6.setTop (mkF m 80 #[.val (.long q0), .second, .val (.long q1), .second, .val (.long q2), .second, .val (.long q3), .second, .val (.int p4), .val (.int p5), .val (.int (0 : Int32)), .val (.int stt), .val (.ref b3), .unset] [(.int (1 : Int32))]))
      refine Good.back (fun _ k => XS.istore X6.here hx rfl (hb hby at_80) rfl (l' := #[.val (.long q0), .second, .val (.long q1), .second, .val (.long q2), .second, .val (.long q3), .second, .val (.int p4), .val (.int p5), .val (.int (0 : Int32)), .val (.int stt), .val (.ref b3), .val (.int (1 : Int32))]) rfl k) ?_
      show Good p e below _ (T6.setTop (mkF m 82 #[.val (.long q0), .second, .val (.long q1), .second, .val (.long q2), .second, .val (.long q3), .second, .val (.int p4), .val (.int p5), .val (.int (0 : Int32)), .val (.int stt), .val (.ref b3), .val (.int (1 : Int32))] []))
      refine Good.back (fun _ k => XS.iload X6.here hx rfl (hb hby at_82) rfl k) ?_
      show Good p e below _ (T6.setTop (mkF m 84 #[.val (.long q0), .second, .val (.long q1), .second, .val (.long q2), .second, .val (.long q3), .second, .val (.int p4), .val (.int p5), .val (.int (0 : Int32)), .val (.int stt), .val (.ref b3), .val (.int (1 : Int32))] [(.int (0 : Int32))]))
      refine Good.back (fun _ k => XS.ifYes X6.here hx rfl (pc0 := 84) (pc' := 116) rfl (hb hby at_84) rfl ((if0 _ _).trans (flt (by decide : ¬ ((0 : Int32) < (0 : Int32)))).2.2.2) (by decide) (by decide) k) ?_
      show Good p e below _ (T6.setTop (mkF m 116 #[.val (.long q0), .second, .val (.long q1), .second, .val (.long q2), .second, .val (.long q3), .second, .val (.int p4), .val (.int p5), .val (.int (0 : Int32)), .val (.int stt), .val (.ref b3), .val (.int (1 : Int32))] []))
      refine Good.back (fun _ k => XS.iload X6.here hx rfl (hb hby at_116) rfl k) ?_
      show Good p e below _ (T6.setTop (mkF m 118 #[.val (.long q0), .second, .val (.long q1), .second, .val (.long q2), .second, .val (.long q3), .second, .val (.int p4), .val (.int p5), .val (.int (0 : Int32)), .val (.int stt), .val (.ref b3), .val (.int (1 : Int32))] [(.int (0 : Int32))]))
      refine Good.back (fun _ k => XS.iconst X6.here hx rfl (hb hby at_118) k) ?_
      show Good p e below _ (T6.setTop (mkF m 119 #[.val (.long q0), .second, .val (.long q1), .second, .val (.long q2), .second, .val (.long q3), .second, .val (.int p4), .val (.int p5), .val (.int (0 : Int32)), .val (.int stt), .val (.ref b3), .val (.int (1 : Int32))] [(.int (1 : Int32)), (.int (0 : Int32))]))
      refine Good.back (fun _ k => XS.icmpYes X6.here hx rfl (pc0 := 119) (pc' := 154) rfl (hb hby at_119) rfl (flt (by decide : ¬ ((1 : Int32) < (0 : Int32)))).2.2.2 (by decide) (by decide) k) ?_
      show Good p e below _ (T6.setTop (mkF m 154 #[.val (.long q0), .second, .val (.long q1), .second, .val (.long q2), .second, .val (.long q3), .second, .val (.int p4), .val (.int p5), .val (.int (0 : Int32)), .val (.int stt), .val (.ref b3), .val (.int (1 : Int32))] []))
      refine Good.back (fun _ k => XS.iload X6.here hx rfl (hb hby at_154) rfl k) ?_
      show Good p e below _ (T6.setTop (mkF m 156 #[.val (.long q0), .second, .val (.long q1), .second, .val (.long q2), .second, .val (.long q3), .second, .val (.int p4), .val (.int p5), .val (.int (0 : Int32)), .val (.int stt), .val (.ref b3), .val (.int (1 : Int32))] [(.int (0 : Int32))]))
      refine Good.back (fun _ k => XS.iconst X6.here hx rfl (hb hby at_156) k) ?_
      show Good p e below _ (T6.setTop (mkF m 157 #[.val (.long q0), .second, .val (.long q1), .second, .val (.long q2), .second, .val (.long q3), .second, .val (.int p4), .val (.int p5), .val (.int (0 : Int32)), .val (.int stt), .val (.ref b3), .val (.int (1 : Int32))] [(.int (2 : Int32)), (.int (0 : Int32))]))
      refine Good.back (fun _ k => XS.icmpYes X6.here hx rfl (pc0 := 157) (pc' := 194) rfl (hb hby at_157) rfl (flt (by decide : ¬ ((2 : Int32) < (0 : Int32)))).2.2.2 (by decide) (by decide) k) ?_
      show Good p e below _ (T6.setTop (mkF m 194 #[.val (.long q0), .second, .val (.long q1), .second, .val (.long q2), .second, .val (.long q3), .second, .val (.int p4), .val (.int p5), .val (.int (0 : Int32)), .val (.int stt), .val (.ref b3), .val (.int (1 : Int32))] []))
      refine Good.back (fun _ k => XS.iload X6.here hx rfl (hb hby at_194) rfl k) ?_
      show Good p e below _ (T6.setTop (mkF m 196 #[.val (.long q0), .second, .val (.long q1), .second, .val (.long q2), .second, .val (.long q3), .second, .val (.int p4), .val (.int p5), .val (.int (0 : Int32)), .val (.int stt), .val (.ref b3), .val (.int (1 : Int32))] [(.int (1 : Int32))]))
      obtain ⟨fs8, hr8, hrun8, hended8, hW8, hsame8⟩ := X6.leave (v := some (.int (1 : Int32))) (fun h => by rw [Bd.returns] at h; cases h)
      refine Good.done (retN X6 hx (t := .boolean) Bd.returns (by simp) (hb hby at_196) hr8) hrun8 hended8 ⟨_, _, rfl, ?_, ⟨_, rfl⟩, hW8, hsame8.mono (by decide) (by decide)⟩
      show Q0 Z q0 q1 q2 q3 p4 p5 h0 n0 _ T6.heap _
      exact ⟨rfl, N6⟩
    · refine Good.back (fun _ k => XS.ifNo X0.here hx rfl (hb hby at_12) rfl ((if0 _ _).trans (feq hc12_2).1) k) ?_
      show Good p e below _ (s₁.setTop (mkF m 15 #[.val (.long q0), .second, .val (.long q1), .second, .val (.long q2), .second, .val (.long q3), .second, .val (.int p4), .val (.int p5), .val (.int (0 : Int32)), .unset, .unset, .unset] []))
      refine Good.back (fun _ k => XS.iload X0.here hx rfl (hb hby at_15) rfl k) ?_
      show Good p e below _ (s₁.setTop (mkF m 17 #[.val (.long q0), .second, .val (.long q1), .second, .val (.long q2), .second, .val (.long q3), .second, .val (.int p4), .val (.int p5), .val (.int (0 : Int32)), .unset, .unset, .unset] [(.int p4)]))
      refine Good.back (fun _ k => XS.sipush X0.here hx rfl (hb hby at_17) k) ?_
      show Good p e below _ (s₁.setTop (mkF m 20 #[.val (.long q0), .second, .val (.long q1), .second, .val (.long q2), .second, .val (.long q3), .second, .val (.int p4), .val (.int p5), .val (.int (0 : Int32)), .unset, .unset, .unset] [(.int (255 : Int32)), (.int p4)]))
      refine Good.back (fun _ k => XS.iand X0.here hx rfl (hb hby at_20) rfl k) ?_
      show Good p e below _ (s₁.setTop (mkF m 21 #[.val (.long q0), .second, .val (.long q1), .second, .val (.long q2), .second, .val (.long q3), .second, .val (.int p4), .val (.int p5), .val (.int (0 : Int32)), .unset, .unset, .unset] [(.int (p4 &&& (255 : Int32)))]))
      refine Good.back (fun _ k => XS.goto X0.here hx rfl (pc0 := 21) (pc' := 29) rfl (hb hby at_21) (by decide) (by decide) k) ?_
      show Good p e below _ (s₁.setTop (mkF m 29 #[.val (.long q0), .second, .val (.long q1), .second, .val (.long q2), .second, .val (.long q3), .second, .val (.int p4), .val (.int p5), .val (.int (0 : Int32)), .unset, .unset, .unset] [(.int (p4 &&& (255 : Int32)))]))
      refine Good.back (fun _ k => XS.istore X0.here hx rfl (hb hby at_29) rfl (l' := #[.val (.long q0), .second, .val (.long q1), .second, .val (.long q2), .second, .val (.long q3), .second, .val (.int p4), .val (.int p5), .val (.int (0 : Int32)), .val (.int (p4 &&& (255 : Int32))), .unset, .unset]) rfl k) ?_
      show Good p e below _ (s₁.setTop (mkF m 31 #[.val (.long q0), .second, .val (.long q1), .second, .val (.long q2), .second, .val (.long q3), .second, .val (.int p4), .val (.int p5), .val (.int (0 : Int32)), .val (.int (p4 &&& (255 : Int32))), .unset, .unset] []))
      obtain ⟨stt, hstt⟩ : ∃ z, z = (p4 &&& (255 : Int32)) := ⟨_, rfl⟩
      rw [← hstt]
      have hst : 0 ≤ stt.toInt := by rw [hstt]; exact (c_and _ _ (by decide)).1
      show Good p e below _ (s₁.setTop (mkF m 31 #[.val (.long q0), .second, .val (.long q1), .second, .val (.long q2), .second, .val (.long q3), .second, .val (.int p4), .val (.int p5), .val (.int (0 : Int32)), .val (.int stt), .unset, .unset] []))
      refine Good.back (fun _ k => XS.iload X0.here hx rfl (hb hby at_31) rfl k) ?_
      show Good p e below _ (s₁.setTop (mkF m 33 #[.val (.long q0), .second, .val (.long q1), .second, .val (.long q2), .second, .val (.long q3), .second, .val (.int p4), .val (.int p5), .val (.int (0 : Int32)), .val (.int stt), .unset, .unset] [(.int (0 : Int32))]))
      obtain ⟨T9, h9, k9, X9, e9, E9, A9, st9⟩ := newP X0 hx hZ (hw _ (List.mem_of_getElem? (i := 1) rfl)) e0 (g := (mkF m 33 #[.val (.long q0), .second, .val (.long q1), .second, .val (.long q2), .second, .val (.long q3), .second, .val (.int p4), .val (.int p5), .val (.int (0 : Int32)), .val (.int stt), .unset, .unset] [(.int (0 : Int32))])) rfl (hb hby at_33) rfl (by decide) (cap := 0) (by decide) (by decide) (by decide) (by decide)
      obtain ⟨b9, g9⟩ : ∃ z, z = h0.size := ⟨_, rfl⟩
      rw [← g9] at A9 st9
      refine Good.back st9 ?_
      have g_b9 : n0 ≤ b9 := Nat.le_trans Z0 (Nat.le_of_eq g9.symm)
      have Z10 : n0 ≤ h9.size := Nat.le_trans Z0 E9.1
      have f_11 : Arv Z h9 b9 k9 .long (0 : Int32) [] (.long (0 : Int64)) := (Arv.new A9 (by decide)).pad (pad_rep [] (.long (0 : Int64)) 0)
      show Good p e below _ (T9.setTop (mkF m 35 #[.val (.long q0), .second, .val (.long q1), .second, .val (.long q2), .second, .val (.long q3), .second, .val (.int p4), .val (.int p5), .val (.int (0 : Int32)), .val (.int stt), .unset, .unset] [(.ref b9)]))
      refine Good.back (fun _ k => XS.astore X9.here hx rfl (hb hby at_35) rfl rfl (l' := #[.val (.long q0), .second, .val (.long q1), .second, .val (.long q2), .second, .val (.long q3), .second, .val (.int p4), .val (.int p5), .val (.int (0 : Int32)), .val (.int stt), .val (.ref b9), .unset]) rfl k) ?_
      show Good p e below _ (T9.setTop (mkF m 37 #[.val (.long q0), .second, .val (.long q1), .second, .val (.long q2), .second, .val (.long q3), .second, .val (.int p4), .val (.int p5), .val (.int (0 : Int32)), .val (.int stt), .val (.ref b9), .unset] []))
      refine Good.back (fun _ k => XS.iload X9.here hx rfl (hb hby at_37) rfl k) ?_
      show Good p e below _ (T9.setTop (mkF m 39 #[.val (.long q0), .second, .val (.long q1), .second, .val (.long q2), .second, .val (.long q3), .second, .val (.int p4), .val (.int p5), .val (.int (0 : Int32)), .val (.int stt), .val (.ref b9), .unset] [(.int (0 : Int32))]))
      refine Good.back (fun _ k => XS.ifYes X9.here hx rfl (pc0 := 39) (pc' := 47) rfl (hb hby at_39) rfl ((if0 _ _).trans (flt (by decide : ¬ ((0 : Int32) < (0 : Int32)))).2.2.2) (by decide) (by decide) k) ?_
      show Good p e below _ (T9.setTop (mkF m 47 #[.val (.long q0), .second, .val (.long q1), .second, .val (.long q2), .second, .val (.long q3), .second, .val (.int p4), .val (.int p5), .val (.int (0 : Int32)), .val (.int stt), .val (.ref b9), .unset] []))
      refine Good.back (fun _ k => XS.iload X9.here hx rfl (hb hby at_47) rfl k) ?_
      show Good p e below _ (T9.setTop (mkF m 49 #[.val (.long q0), .second, .val (.long q1), .second, .val (.long q2), .second, .val (.long q3), .second, .val (.int p4), .val (.int p5), .val (.int (0 : Int32)), .val (.int stt), .val (.ref b9), .unset] [(.int (0 : Int32))]))
      refine Good.back (fun _ k => XS.iconst X9.here hx rfl (hb hby at_49) k) ?_
      show Good p e below _ (T9.setTop (mkF m 50 #[.val (.long q0), .second, .val (.long q1), .second, .val (.long q2), .second, .val (.long q3), .second, .val (.int p4), .val (.int p5), .val (.int (0 : Int32)), .val (.int stt), .val (.ref b9), .unset] [(.int (1 : Int32)), (.int (0 : Int32))]))
      refine Good.back (fun _ k => XS.icmpYes X9.here hx rfl (pc0 := 50) (pc' := 58) rfl (hb hby at_50) rfl (flt (by decide : ¬ ((1 : Int32) < (0 : Int32)))).2.2.2 (by decide) (by decide) k) ?_
      show Good p e below _ (T9.setTop (mkF m 58 #[.val (.long q0), .second, .val (.long q1), .second, .val (.long q2), .second, .val (.long q3), .second, .val (.int p4), .val (.int p5), .val (.int (0 : Int32)), .val (.int stt), .val (.ref b9), .unset] []))
      refine Good.back (fun _ k => XS.iload X9.here hx rfl (hb hby at_58) rfl k) ?_
      show Good p e below _ (T9.setTop (mkF m 60 #[.val (.long q0), .second, .val (.long q1), .second, .val (.long q2), .second, .val (.long q3), .second, .val (.int p4), .val (.int p5), .val (.int (0 : Int32)), .val (.int stt), .val (.ref b9), .unset] [(.int (0 : Int32))]))
      refine Good.back (fun _ k => XS.iconst X9.here hx rfl (hb hby at_60) k) ?_
      show Good p e below _ (T9.setTop (mkF m 61 #[.val (.long q0), .second, .val (.long q1), .second, .val (.long q2), .second, .val (.long q3), .second, .val (.int p4), .val (.int p5), .val (.int (0 : Int32)), .val (.int stt), .val (.ref b9), .unset] [(.int (2 : Int32)), (.int (0 : Int32))]))
      refine Good.back (fun _ k => XS.icmpYes X9.here hx rfl (pc0 := 61) (pc' := 70) rfl (hb hby at_61) rfl (flt (by decide : ¬ ((2 : Int32) < (0 : Int32)))).2.2.2 (by decide) (by decide) k) ?_
      show Good p e below _ (T9.setTop (mkF m 70 #[.val (.long q0), .second, .val (.long q1), .second, .val (.long q2), .second, .val (.long q3), .second, .val (.int p4), .val (.int p5), .val (.int (0 : Int32)), .val (.int stt), .val (.ref b9), .unset] []))
      refine Good.back (fun _ k => XS.aload X9.here hx rfl (hb hby at_70) rfl rfl k) ?_
      show Good p e below _ (T9.setTop (mkF m 72 #[.val (.long q0), .second, .val (.long q1), .second, .val (.long q2), .second, .val (.long q3), .second, .val (.int p4), .val (.int p5), .val (.int (0 : Int32)), .val (.int stt), .val (.ref b9), .unset] [(.ref b9)]))
      refine Good.back (fun _ k => XS.lload X9.here hx rfl (hb hby at_72) rfl k) ?_
      show Good p e below _ (T9.setTop (mkF m 74 #[.val (.long q0), .second, .val (.long q1), .second, .val (.long q2), .second, .val (.long q3), .second, .val (.int p4), .val (.int p5), .val (.int (0 : Int32)), .val (.int stt), .val (.ref b9), .unset] [(.long q3), (.ref b9)]))
      refine Good.back (fun _ k => XS.iload X9.here hx rfl (hb hby at_74) rfl k) ?_
      show Good p e below _ (T9.setTop (mkF m 76 #[.val (.long q0), .second, .val (.long q1), .second, .val (.long q2), .second, .val (.long q3), .second, .val (.int p4), .val (.int p5), .val (.int (0 : Int32)), .val (.int stt), .val (.ref b9), .unset] [(.int stt), (.long q3), (.ref b9)]))
      obtain ⟨_, _, ⟨T12, L12, k12, n12⟩, -, X12, ⟨Lc12, hQ12, l12, y12, z12⟩, st12⟩ := Jvm.LawKit.callS X9 hx (y := (⟨"com/example/fradno/fradno/core/CellSet", "or", "([JJI)V"⟩ : MethodName)) hown (mvT hZ (hw _ (List.mem_of_getElem? (i := 2) rfl))) (mvT hZ (hw _ (List.mem_of_getElem? (i := 3) rfl))) (mvT hZ (hw _ (List.mem_of_getElem? (i := 4) rfl))) (mvT hZ (hw _ (List.mem_of_getElem? (i := 5) rfl))) (by decide) (backOf (W := 0) (rm1_0 l Z a0 hw [] b9 q3 stt k9 h9 n0 Z10 f_11 g_b9 (hst)) hZ (hw _ (List.mem_of_getElem? (i := 5) rfl)) (hw _ (List.mem_of_getElem? (i := 4) rfl)) (by decide) (by decide)) (g := (mkF m 76 #[.val (.long q0), .second, .val (.long q1), .second, .val (.long q2), .second, .val (.long q3), .second, .val (.int p4), .val (.int p5), .val (.int (0 : Int32)), .val (.int stt), .val (.ref b9), .unset] [(.int stt), (.long q3), (.ref b9)])) rfl (by rw [hml]; rfl) (argsL := [(.ref b9), (.long q3), (.int stt)]) (rest := []) (lenOf own_pd62 rfl) rfl (by show 2 * 0 + _ ≤ _; exact Nat.le_of_eq rfl) (hb hby at_76) (fun _ _ => ⟨rfl, e9, (by decide : 1 + 0 ≤ _), (by decide : 0 + 0 ≤ _)⟩)
      dsimp only [Pt.U, Pt.locs, Pt.cells, Pt.slots] at X12 l12 y12 z12 st12 hQ12
      subst l12 y12 z12
      obtain ⟨rfl, N12q, Kq12, o12_0⟩ := hQ12
      have N12 := Fr.app N0 N12q
      have Z13 : n0 ≤ T12.heap.size := Nat.le_trans Z10 Kq12.1
      refine Good.back st12 ?_
      show Good p e below _ (T12.setTop (mkF m 79 #[.val (.long q0), .second, .val (.long q1), .second, .val (.long q2), .second, .val (.long q3), .second, .val (.int p4), .val (.int p5), .val (.int (0 : Int32)), .val (.int stt), .val (.ref b9), .unset] []))
      refine Good.back (fun _ k => XS.iconst X12.here hx rfl (hb hby at_79) k) ?_
      show Good p e below _ (T12.setTop (mkF m 80 #[.val (.long q0), .second, .val (.long q1), .second, .val (.long q2), .second, .val (.long q3), .second, .val (.int p4), .val (.int p5), .val (.int (0 : Int32)), .val (.int stt), .val (.ref b9), .unset] [(.int (1 : Int32))]))
      refine Good.back (fun _ k => XS.istore X12.here hx rfl (hb hby at_80) rfl (l' := #[.val (.long q0), .second, .val (.long q1), .second, .val (.long q2), .second, .val (.long q3), .second, .val (.int p4), .val (.int p5), .val (.int (0 : Int32)), .val (.int stt), .val (.ref b9), .val (.int (1 : Int32))]) rfl k) ?_
      show Good p e below _ (T12.setTop (mkF m 82 #[.val (.long q0), .second, .val (.long q1), .second, .val (.long q2), .second, .val (.long q3), .second, .val (.int p4), .val (.int p5), .val (.int (0 : Int32)), .val (.int stt), .val (.ref b9), .val (.int (1 : Int32))] []))
      refine Good.back (fun _ k => XS.iload X12.here hx rfl (hb hby at_82) rfl k) ?_
      show Good p e below _ (T12.setTop (mkF m 84 #[.val (.long q0), .second, .val (.long q1), .second, .val (.long q2), .second, .val (.long q3), .second, .val (.int p4), .val (.int p5), .val (.int (0 : Int32)), .val (.int stt), .val (.ref b9), .val (.int (1 : Int32))] [(.int (0 : Int32))]))
      refine Good.back (fun _ k => XS.ifYes X12.here hx rfl (pc0 := 84) (pc' := 116) rfl (hb hby at_84) rfl ((if0 _ _).trans (flt (by decide : ¬ ((0 : Int32) < (0 : Int32)))).2.2.2) (by decide) (by decide) k) ?_
      show Good p e below _ (T12.setTop (mkF m 116 #[.val (.long q0), .second, .val (.long q1), .second, .val (.long q2), .second, .val (.long q3), .second, .val (.int p4), .val (.int p5), .val (.int (0 : Int32)), .val (.int stt), .val (.ref b9), .val (.int (1 : Int32))] []))
      refine Good.back (fun _ k => XS.iload X12.here hx rfl (hb hby at_116) rfl k) ?_
      show Good p e below _ (T12.setTop (mkF m 118 #[.val (.long q0), .second, .val (.long q1), .second, .val (.long q2), .second, .val (.long q3), .second, .val (.int p4), .val (.int p5), .val (.int (0 : Int32)), .val (.int stt), .val (.ref b9), .val (.int (1 : Int32))] [(.int (0 : Int32))]))
      refine Good.back (fun _ k => XS.iconst X12.here hx rfl (hb hby at_118) k) ?_
      show Good p e below _ (T12.setTop (mkF m 119 #[.val (.long q0), .second, .val (.long q1), .second, .val (.long q2), .second, .val (.long q3), .second, .val (.int p4), .val (.int p5), .val (.int (0 : Int32)), .val (.int stt), .val (.ref b9), .val (.int (1 : Int32))] [(.int (1 : Int32)), (.int (0 : Int32))]))
      refine Good.back (fun _ k => XS.icmpYes X12.here hx rfl (pc0 := 119) (pc' := 154) rfl (hb hby at_119) rfl (flt (by decide : ¬ ((1 : Int32) < (0 : Int32)))).2.2.2 (by decide) (by decide) k) ?_
      show Good p e below _ (T12.setTop (mkF m 154 #[.val (.long q0), .second, .val (.long q1), .second, .val (.long q2), .second, .val (.long q3), .second, .val (.int p4), .val (.int p5), .val (.int (0 : Int32)), .val (.int stt), .val (.ref b9), .val (.int (1 : Int32))] []))
      refine Good.back (fun _ k => XS.iload X12.here hx rfl (hb hby at_154) rfl k) ?_
      show Good p e below _ (T12.setTop (mkF m 156 #[.val (.long q0), .second, .val (.long q1), .second, .val (.long q2), .second, .val (.long q3), .second, .val (.int p4), .val (.int p5), .val (.int (0 : Int32)), .val (.int stt), .val (.ref b9), .val (.int (1 : Int32))] [(.int (0 : Int32))]))
      refine Good.back (fun _ k => XS.iconst X12.here hx rfl (hb hby at_156) k) ?_
      show Good p e below _ (T12.setTop (mkF m 157 #[.val (.long q0), .second, .val (.long q1), .second, .val (.long q2), .second, .val (.long q3), .second, .val (.int p4), .val (.int p5), .val (.int (0 : Int32)), .val (.int stt), .val (.ref b9), .val (.int (1 : Int32))] [(.int (2 : Int32)), (.int (0 : Int32))]))
      refine Good.back (fun _ k => XS.icmpYes X12.here hx rfl (pc0 := 157) (pc' := 194) rfl (hb hby at_157) rfl (flt (by decide : ¬ ((2 : Int32) < (0 : Int32)))).2.2.2 (by decide) (by decide) k) ?_
      show Good p e below _ (T12.setTop (mkF m 194 #[.val (.long q0), .second, .val (.long q1), .second, .val (.long q2), .second, .val (.long q3), .second, .val (.int p4), .val (.int p5), .val (.int (0 : Int32)), .val (.int stt), .val (.ref b9), .val (.int (1 : Int32))] []))
      refine Good.back (fun _ k => XS.iload X12.here hx rfl (hb hby at_194) rfl k) ?_
      show Good p e below _ (T12.setTop (mkF m 196 #[.val (.long q0), .second, .val (.long q1), .second, .val (.long q2), .second, .val (.long q3), .second, .val (.int p4), .val (.int p5), .val (.int (0 : Int32)), .val (.int stt), .val (.ref b9), .val (.int (1 : Int32))] [(.int (1 : Int32))]))
      obtain ⟨fs14, hr14, hrun14, hended14, hW14, hsame14⟩ := X12.leave (v := some (.int (1 : Int32))) (fun h => by rw [Bd.returns] at h; cases h)
      refine Good.done (retN X12 hx (t := .boolean) Bd.returns (by simp) (hb hby at_196) hr14) hrun14 hended14 ⟨_, _, rfl, ?_, ⟨_, rfl⟩, hW14, hsame14.mono (by decide) (by decide)⟩
      show Q0 Z q0 q1 q2 q3 p4 p5 h0 n0 _ T12.heap _
      exact ⟨rfl, N12⟩
  · have he1' : (((p5.toUInt32 >>> ((1 : Int32) &&& 31).toUInt32).toInt32) &&& (3 : Int32)) = (1 : Int32) := he1
    rw [he1']
    show Good p e below _ (s₁.setTop (mkF m 8 #[.val (.long q0), .second, .val (.long q1), .second, .val (.long q2), .second, .val (.long q3), .second, .val (.int p4), .val (.int p5), .val (.int (1 : Int32)), .unset, .unset, .unset] []))
    refine Good.back (fun _ k => XS.iload X0.here hx rfl (hb hby at_8) rfl k) ?_
    show Good p e below _ (s₁.setTop (mkF m 10 #[.val (.long q0), .second, .val (.long q1), .second, .val (.long q2), .second, .val (.long q3), .second, .val (.int p4), .val (.int p5), .val (.int (1 : Int32)), .unset, .unset, .unset] [(.int p5)]))
    refine Good.back (fun _ k => XS.iconst X0.here hx rfl (hb hby at_10) k) ?_
    show Good p e below _ (s₁.setTop (mkF m 11 #[.val (.long q0), .second, .val (.long q1), .second, .val (.long q2), .second, .val (.long q3), .second, .val (.int p4), .val (.int p5), .val (.int (1 : Int32)), .unset, .unset, .unset] [(.int (1 : Int32)), (.int p5)]))
    refine Good.back (fun _ k => XS.iand X0.here hx rfl (hb hby at_11) rfl k) ?_
    show Good p e below _ (s₁.setTop (mkF m 12 #[.val (.long q0), .second, .val (.long q1), .second, .val (.long q2), .second, .val (.long q3), .second, .val (.int p4), .val (.int p5), .val (.int (1 : Int32)), .unset, .unset, .unset] [(.int (p5 &&& (1 : Int32)))]))
    by_cases hc12_15 : (p5 &&& (1 : Int32)) = (0 : Int32)
    · refine Good.back (fun _ k => XS.ifYes X0.here hx rfl (pc0 := 12) (pc' := 24) rfl (hb hby at_12) rfl ((if0 _ _).trans (teq hc12_15).1) (by decide) (by decide) k) ?_
      show Good p e below _ (s₁.setTop (mkF m 24 #[.val (.long q0), .second, .val (.long q1), .second, .val (.long q2), .second, .val (.long q3), .second, .val (.int p4), .val (.int p5), .val (.int (1 : Int32)), .unset, .unset, .unset] []))
      refine Good.back (fun _ k => XS.iload X0.here hx rfl (hb hby at_24) rfl k) ?_
      show Good p e below _ (s₁.setTop (mkF m 26 #[.val (.long q0), .second, .val (.long q1), .second, .val (.long q2), .second, .val (.long q3), .second, .val (.int p4), .val (.int p5), .val (.int (1 : Int32)), .unset, .unset, .unset] [(.int p4)]))
      refine Good.back (X0.ldcInt hx hown (mvT hZ (hw _ (List.mem_of_getElem? (i := 0) rfl))) (g := (mkF m 26 #[.val (.long q0), .second, .val (.long q1), .second, .val (.long q2), .second, .val (.long q3), .second, .val (.int p4), .val (.int p5), .val (.int (1 : Int32)), .unset, .unset, .unset] [(.int p4)])) rfl (hb hby at_26)) ?_
      show Good p e below _ (s₁.setTop (mkF m 28 #[.val (.long q0), .second, .val (.long q1), .second, .val (.long q2), .second, .val (.long q3), .second, .val (.int p4), .val (.int p5), .val (.int (1 : Int32)), .unset, .unset, .unset] [(.int (2147483647 : Int32)), (.int p4)]))
      refine Good.back (fun _ k => XS.iand X0.here hx rfl (hb hby at_28) rfl k) ?_
      show Good p e below _ (s₁.setTop (mkF m 29 #[.val (.long q0), .second, .val (.long q1), .second, .val (.long q2), .second, .val (.long q3), .second, .val (.int p4), .val (.int p5), .val (.int (1 : Int32)), .unset, .unset, .unset] [(.int (p4 &&& (2147483647 : Int32)))]))
      refine Good.back (fun _ k => XS.istore X0.here hx rfl (hb hby at_29) rfl (l' := #[.val (.long q0), .second, .val (.long q1), .second, .val (.long q2), .second, .val (.long q3), .second, .val (.int p4), .val (.int p5), .val (.int (1 : Int32)), .val (.int (p4 &&& (2147483647 : Int32))), .unset, .unset]) rfl k) ?_
      show Good p e below _ (s₁.setTop (mkF m 31 #[.val (.long q0), .second, .val (.long q1), .second, .val (.long q2), .second, .val (.long q3), .second, .val (.int p4), .val (.int p5), .val (.int (1 : Int32)), .val (.int (p4 &&& (2147483647 : Int32))), .unset, .unset] []))
      obtain ⟨stt, hstt⟩ : ∃ z, z = (p4 &&& (2147483647 : Int32)) := ⟨_, rfl⟩
      rw [← hstt]
      have hst : 0 ≤ stt.toInt := by rw [hstt]; exact (c_and _ _ (by decide)).1
      show Good p e below _ (s₁.setTop (mkF m 31 #[.val (.long q0), .second, .val (.long q1), .second, .val (.long q2), .second, .val (.long q3), .second, .val (.int p4), .val (.int p5), .val (.int (1 : Int32)), .val (.int stt), .unset, .unset] []))
      refine Good.back (fun _ k => XS.iload X0.here hx rfl (hb hby at_31) rfl k) ?_
      show Good p e below _ (s₁.setTop (mkF m 33 #[.val (.long q0), .second, .val (.long q1), .second, .val (.long q2), .second, .val (.long q3), .second, .val (.int p4), .val (.int p5), .val (.int (1 : Int32)), .val (.int stt), .unset, .unset] [(.int (1 : Int32))]))
      obtain ⟨T16, h16, k16, X16, e16, E16, A16, st16⟩ := newP X0 hx hZ (hw _ (List.mem_of_getElem? (i := 1) rfl)) e0 (g := (mkF m 33 #[.val (.long q0), .second, .val (.long q1), .second, .val (.long q2), .second, .val (.long q3), .second, .val (.int p4), .val (.int p5), .val (.int (1 : Int32)), .val (.int stt), .unset, .unset] [(.int (1 : Int32))])) rfl (hb hby at_33) rfl (by decide) (cap := 1) (by decide) (by decide) (by decide) (by decide)
      obtain ⟨b16, g16⟩ : ∃ z, z = h0.size := ⟨_, rfl⟩
      rw [← g16] at A16 st16
      refine Good.back st16 ?_
      have g_b16 : n0 ≤ b16 := Nat.le_trans Z0 (Nat.le_of_eq g16.symm)
      have Z17 : n0 ≤ h16.size := Nat.le_trans Z0 E16.1
      have f_18 : Arv Z h16 b16 k16 .long (1 : Int32) [(.long (0 : Int64))] (.long (0 : Int64)) := (Arv.new A16 (by decide)).pad (pad_rep [] (.long (0 : Int64)) 1)
      show Good p e below _ (T16.setTop (mkF m 35 #[.val (.long q0), .second, .val (.long q1), .second, .val (.long q2), .second, .val (.long q3), .second, .val (.int p4), .val (.int p5), .val (.int (1 : Int32)), .val (.int stt), .unset, .unset] [(.ref b16)]))
      refine Good.back (fun _ k => XS.astore X16.here hx rfl (hb hby at_35) rfl rfl (l' := #[.val (.long q0), .second, .val (.long q1), .second, .val (.long q2), .second, .val (.long q3), .second, .val (.int p4), .val (.int p5), .val (.int (1 : Int32)), .val (.int stt), .val (.ref b16), .unset]) rfl k) ?_
      show Good p e below _ (T16.setTop (mkF m 37 #[.val (.long q0), .second, .val (.long q1), .second, .val (.long q2), .second, .val (.long q3), .second, .val (.int p4), .val (.int p5), .val (.int (1 : Int32)), .val (.int stt), .val (.ref b16), .unset] []))
      refine Good.back (fun _ k => XS.iload X16.here hx rfl (hb hby at_37) rfl k) ?_
      show Good p e below _ (T16.setTop (mkF m 39 #[.val (.long q0), .second, .val (.long q1), .second, .val (.long q2), .second, .val (.long q3), .second, .val (.int p4), .val (.int p5), .val (.int (1 : Int32)), .val (.int stt), .val (.ref b16), .unset] [(.int (1 : Int32))]))
      refine Good.back (fun _ k => XS.ifNo X16.here hx rfl (hb hby at_39) rfl ((if0 _ _).trans (tlt (by decide : ((0 : Int32) < (1 : Int32)))).2.2.2) k) ?_
      show Good p e below _ (T16.setTop (mkF m 42 #[.val (.long q0), .second, .val (.long q1), .second, .val (.long q2), .second, .val (.long q3), .second, .val (.int p4), .val (.int p5), .val (.int (1 : Int32)), .val (.int stt), .val (.ref b16), .unset] []))
      refine Good.back (fun _ k => XS.aload X16.here hx rfl (hb hby at_42) rfl rfl k) ?_
      show Good p e below _ (T16.setTop (mkF m 44 #[.val (.long q0), .second, .val (.long q1), .second, .val (.long q2), .second, .val (.long q3), .second, .val (.int p4), .val (.int p5), .val (.int (1 : Int32)), .val (.int stt), .val (.ref b16), .unset] [(.ref b16)]))
      refine Good.back (fun _ k => XS.iconst X16.here hx rfl (hb hby at_44) k) ?_
      show Good p e below _ (T16.setTop (mkF m 45 #[.val (.long q0), .second, .val (.long q1), .second, .val (.long q2), .second, .val (.long q3), .second, .val (.int p4), .val (.int p5), .val (.int (1 : Int32)), .val (.int stt), .val (.ref b16), .unset] [(.int (0 : Int32)), (.ref b16)]))
      refine Good.back (fun _ k => XS.lloadN X16.here hx rfl (hb hby at_45) rfl k) ?_
      show Good p e below _ (T16.setTop (mkF m 46 #[.val (.long q0), .second, .val (.long q1), .second, .val (.long q2), .second, .val (.long q3), .second, .val (.int p4), .val (.int p5), .val (.int (1 : Int32)), .val (.int stt), .val (.ref b16), .unset] [(.long q0), (.int (0 : Int32)), (.ref b16)]))
      have fc19 := f_18
      obtain ⟨cl19, Ar19, qk19, S19, N19', H19, G19⟩ := fc19
      have hin19 : ¬ ((0 : Int32) < 0 ∨ cl19.slots.size ≤ ((0 : Int32)).toNatClampNeg) := inb_of S19 ⟨by decide, by decide⟩
      obtain ⟨T19, h19, X19, e19, W19, st19⟩ := stJ X16 hx hZ e16 Ar19 (j := (0 : Int32)) hin19 (g := (mkF m 46 #[.val (.long q0), .second, .val (.long q1), .second, .val (.long q2), .second, .val (.long q3), .second, .val (.int p4), .val (.int p5), .val (.int (1 : Int32)), .val (.int stt), .val (.ref b16), .unset] [(.long q0), (.int (0 : Int32)), (.ref b16)])) rfl rfl (hb hby at_46)
      refine Good.back st19 ?_
      have f_20 : Arv Z h19 b16 k16 .long (1 : Int32) [(.long q0)] (.long (0 : Int64)) := Arv.set Ar19 qk19 S19 N19' H19 G19 rfl W19 0 rfl (Nat.le_of_ble_eq_true rfl)
      have N19 := Fr.snoc X19 N0 g_b16
      have Z21 : n0 ≤ h19.size := Nat.le_trans Z17 (Keep.of_wr W19).1
      show Good p e below _ (T19.setTop (mkF m 47 #[.val (.long q0), .second, .val (.long q1), .second, .val (.long q2), .second, .val (.long q3), .second, .val (.int p4), .val (.int p5), .val (.int (1 : Int32)), .val (.int stt), .val (.ref b16), .unset] []))
      refine Good.back (fun _ k => XS.iload X19.here hx rfl (hb hby at_47) rfl k) ?_
      show Good p e below _ (T19.setTop (mkF m 49 #[.val (.long q0), .second, .val (.long q1), .second, .val (.long q2), .second, .val (.long q3), .second, .val (.int p4), .val (.int p5), .val (.int (1 : Int32)), .val (.int stt), .val (.ref b16), .unset] [(.int (1 : Int32))]))
      refine Good.back (fun _ k => XS.iconst X19.here hx rfl (hb hby at_49) k) ?_
      show Good p e below _ (T19.setTop (mkF m 50 #[.val (.long q0), .second, .val (.long q1), .second, .val (.long q2), .second, .val (.long q3), .second, .val (.int p4), .val (.int p5), .val (.int (1 : Int32)), .val (.int stt), .val (.ref b16), .unset] [(.int (1 : Int32)), (.int (1 : Int32))]))
      refine Good.back (fun _ k => XS.icmpYes X19.here hx rfl (pc0 := 50) (pc' := 58) rfl (hb hby at_50) rfl (flt (by decide : ¬ ((1 : Int32) < (1 : Int32)))).2.2.2 (by decide) (by decide) k) ?_
      show Good p e below _ (T19.setTop (mkF m 58 #[.val (.long q0), .second, .val (.long q1), .second, .val (.long q2), .second, .val (.long q3), .second, .val (.int p4), .val (.int p5), .val (.int (1 : Int32)), .val (.int stt), .val (.ref b16), .unset] []))
      refine Good.back (fun _ k => XS.iload X19.here hx rfl (hb hby at_58) rfl k) ?_
      show Good p e below _ (T19.setTop (mkF m 60 #[.val (.long q0), .second, .val (.long q1), .second, .val (.long q2), .second, .val (.long q3), .second, .val (.int p4), .val (.int p5), .val (.int (1 : Int32)), .val (.int stt), .val (.ref b16), .unset] [(.int (1 : Int32))]))
      refine Good.back (fun _ k => XS.iconst X19.here hx rfl (hb hby at_60) k) ?_
      show Good p e below _ (T19.setTop (mkF m 61 #[.val (.long q0), .second, .val (.long q1), .second, .val (.long q2), .second, .val (.long q3), .second, .val (.int p4), .val (.int p5), .val (.int (1 : Int32)), .val (.int stt), .val (.ref b16), .unset] [(.int (2 : Int32)), (.int (1 : Int32))]))
      refine Good.back (fun _ k => XS.icmpYes X19.here hx rfl (pc0 := 61) (pc' := 70) rfl (hb hby at_61) rfl (flt (by decide : ¬ ((2 : Int32) < (1 : Int32)))).2.2.2 (by decide) (by decide) k) ?_
      show Good p e below _ (T19.setTop (mkF m 70 #[.val (.long q0), .second, .val (.long q1), .second, .val (.long q2), .second, .val (.long q3), .second, .val (.int p4), .val (.int p5), .val (.int (1 : Int32)), .val (.int stt), .val (.ref b16), .unset] []))
      refine Good.back (fun _ k => XS.aload X19.here hx rfl (hb hby at_70) rfl rfl k) ?_
      show Good p e below _ (T19.setTop (mkF m 72 #[.val (.long q0), .second, .val (.long q1), .second, .val (.long q2), .second, .val (.long q3), .second, .val (.int p4), .val (.int p5), .val (.int (1 : Int32)), .val (.int stt), .val (.ref b16), .unset] [(.ref b16)]))
      refine Good.back (fun _ k => XS.lload X19.here hx rfl (hb hby at_72) rfl k) ?_
      show Good p e below _ (T19.setTop (mkF m 74 #[.val (.long q0), .second, .val (.long q1), .second, .val (.long q2), .second, .val (.long q3), .second, .val (.int p4), .val (.int p5), .val (.int (1 : Int32)), .val (.int stt), .val (.ref b16), .unset] [(.long q3), (.ref b16)]))
      refine Good.back (fun _ k => XS.iload X19.here hx rfl (hb hby at_74) rfl k) ?_
      show Good p e below _ (T19.setTop (mkF m 76 #[.val (.long q0), .second, .val (.long q1), .second, .val (.long q2), .second, .val (.long q3), .second, .val (.int p4), .val (.int p5), .val (.int (1 : Int32)), .val (.int stt), .val (.ref b16), .unset] [(.int stt), (.long q3), (.ref b16)]))
      obtain ⟨_, _, ⟨T22, L22, k22, n22⟩, -, X22, ⟨Lc22, hQ22, l22, y22, z22⟩, st22⟩ := Jvm.LawKit.callS X19 hx (y := (⟨"com/example/fradno/fradno/core/CellSet", "or", "([JJI)V"⟩ : MethodName)) hown (mvT hZ (hw _ (List.mem_of_getElem? (i := 2) rfl))) (mvT hZ (hw _ (List.mem_of_getElem? (i := 3) rfl))) (mvT hZ (hw _ (List.mem_of_getElem? (i := 4) rfl))) (mvT hZ (hw _ (List.mem_of_getElem? (i := 5) rfl))) (by decide) (backOf (W := 0) (rm1_1 l Z a0 hw [] b16 q3 stt k16 q0 h19 n0 Z21 f_20 g_b16 (hst)) hZ (hw _ (List.mem_of_getElem? (i := 5) rfl)) (hw _ (List.mem_of_getElem? (i := 4) rfl)) (by decide) (by decide)) (g := (mkF m 76 #[.val (.long q0), .second, .val (.long q1), .second, .val (.long q2), .second, .val (.long q3), .second, .val (.int p4), .val (.int p5), .val (.int (1 : Int32)), .val (.int stt), .val (.ref b16), .unset] [(.int stt), (.long q3), (.ref b16)])) rfl (by rw [hml]; rfl) (argsL := [(.ref b16), (.long q3), (.int stt)]) (rest := []) (lenOf own_pd62 rfl) rfl (by show 2 * 0 + _ ≤ _; exact Nat.le_of_eq rfl) (hb hby at_76) (fun _ _ => ⟨rfl, e19, (by decide : 1 + 0 ≤ _), (by decide : 1 + 0 ≤ _)⟩)
      dsimp only [Pt.U, Pt.locs, Pt.cells, Pt.slots] at X22 l22 y22 z22 st22 hQ22
      subst l22 y22 z22
      obtain ⟨rfl, N22q, Kq22, o22_0⟩ := hQ22
      have N22 := Fr.app N19 N22q
      have Z23 : n0 ≤ T22.heap.size := Nat.le_trans Z21 Kq22.1
      refine Good.back st22 ?_
      show Good p e below _ (T22.setTop (mkF m 79 #[.val (.long q0), .second, .val (.long q1), .second, .val (.long q2), .second, .val (.long q3), .second, .val (.int p4), .val (.int p5), .val (.int (1 : Int32)), .val (.int stt), .val (.ref b16), .unset] []))
      refine Good.back (fun _ k => XS.iconst X22.here hx rfl (hb hby at_79) k) ?_
      show Good p e below _ (T22.setTop (mkF m 80 #[.val (.long q0), .second, .val (.long q1), .second, .val (.long q2), .second, .val (.long q3), .second, .val (.int p4), .val (.int p5), .val (.int (1 : Int32)), .val (.int stt), .val (.ref b16), .unset] [(.int (1 : Int32))]))
      refine Good.back (fun _ k => XS.istore X22.here hx rfl (hb hby at_80) rfl (l' := #[.val (.long q0), .second, .val (.long q1), .second, .val (.long q2), .second, .val (.long q3), .second, .val (.int p4), .val (.int p5), .val (.int (1 : Int32)), .val (.int stt), .val (.ref b16), .val (.int (1 : Int32))]) rfl k) ?_
      show Good p e below _ (T22.setTop (mkF m 82 #[.val (.long q0), .second, .val (.long q1), .second, .val (.long q2), .second, .val (.long q3), .second, .val (.int p4), .val (.int p5), .val (.int (1 : Int32)), .val (.int stt), .val (.ref b16), .val (.int (1 : Int32))] []))
      refine Good.back (fun _ k => XS.iload X22.here hx rfl (hb hby at_82) rfl k) ?_
      show Good p e below _ (T22.setTop (mkF m 84 #[.val (.long q0), .second, .val (.long q1), .second, .val (.long q2), .second, .val (.long q3), .second, .val (.int p4), .val (.int p5), .val (.int (1 : Int32)), .val (.int stt), .val (.ref b16), .val (.int (1 : Int32))] [(.int (1 : Int32))]))
      refine Good.back (fun _ k => XS.ifNo X22.here hx rfl (hb hby at_84) rfl ((if0 _ _).trans (tlt (by decide : ((0 : Int32) < (1 : Int32)))).2.2.2) k) ?_
      show Good p e below _ (T22.setTop (mkF m 87 #[.val (.long q0), .second, .val (.long q1), .second, .val (.long q2), .second, .val (.long q3), .second, .val (.int p4), .val (.int p5), .val (.int (1 : Int32)), .val (.int stt), .val (.ref b16), .val (.int (1 : Int32))] []))
      refine Good.back (fun _ k => XS.iload X22.here hx rfl (hb hby at_87) rfl k) ?_
      show Good p e below _ (T22.setTop (mkF m 89 #[.val (.long q0), .second, .val (.long q1), .second, .val (.long q2), .second, .val (.long q3), .second, .val (.int p4), .val (.int p5), .val (.int (1 : Int32)), .val (.int stt), .val (.ref b16), .val (.int (1 : Int32))] [(.int (1 : Int32))]))
      refine Good.back (fun _ k => XS.ifNo X22.here hx rfl (hb hby at_89) rfl ((if0 _ _).trans (feq (by decide : ¬ ((1 : Int32) = (0 : Int32)))).1) k) ?_
      show Good p e below _ (T22.setTop (mkF m 92 #[.val (.long q0), .second, .val (.long q1), .second, .val (.long q2), .second, .val (.long q3), .second, .val (.int p4), .val (.int p5), .val (.int (1 : Int32)), .val (.int stt), .val (.ref b16), .val (.int (1 : Int32))] []))
      refine Good.back (fun _ k => XS.aload X22.here hx rfl (hb hby at_92) rfl rfl k) ?_
      show Good p e below _ (T22.setTop (mkF m 94 #[.val (.long q0), .second, .val (.long q1), .second, .val (.long q2), .second, .val (.long q3), .second, .val (.int p4), .val (.int p5), .val (.int (1 : Int32)), .val (.int stt), .val (.ref b16), .val (.int (1 : Int32))] [(.ref b16)]))
      refine Good.back (fun _ k => XS.iconst X22.here hx rfl (hb hby at_94) k) ?_
      show Good p e below _ (T22.setTop (mkF m 95 #[.val (.long q0), .second, .val (.long q1), .second, .val (.long q2), .second, .val (.long q3), .second, .val (.int p4), .val (.int p5), .val (.int (1 : Int32)), .val (.int stt), .val (.ref b16), .val (.int (1 : Int32))] [(.int (0 : Int32)), (.ref b16)]))
      have fc24 := o22_0
      obtain ⟨cl24, Ar24, qk24, S24, N24', H24, G24⟩ := fc24
      have hin24 : ¬ ((0 : Int32) < 0 ∨ cl24.slots.size ≤ ((0 : Int32)).toNatClampNeg) := inb_of S24 ⟨by decide, by decide⟩
      have hat24 : cl24.slots[((0 : Int32)).toNatClampNeg]? = some (.long (own_upd 0 q0 q3 stt)) := Has.at H24 hin24 rfl
      refine Good.back (X22.laload hx (j := (0 : Int32)) (v := (.long (own_upd 0 q0 q3 stt))) (Ar24.1) (State.isArrayOf_alike hZ.alike Ar24.2.1) Ar24.2.2 hin24 hat24 (g := (mkF m 95 #[.val (.long q0), .second, .val (.long q1), .second, .val (.long q2), .second, .val (.long q3), .second, .val (.int p4), .val (.int p5), .val (.int (1 : Int32)), .val (.int stt), .val (.ref b16), .val (.int (1 : Int32))] [(.int (0 : Int32)), (.ref b16)])) rfl rfl (hb hby at_95)) ?_
      show Good p e below _ (T22.setTop (mkF m 96 #[.val (.long q0), .second, .val (.long q1), .second, .val (.long q2), .second, .val (.long q3), .second, .val (.int p4), .val (.int p5), .val (.int (1 : Int32)), .val (.int stt), .val (.ref b16), .val (.int (1 : Int32))] [(.long (own_upd 0 q0 q3 stt))]))
      refine Good.back (fun _ k => XS.lloadN X22.here hx rfl (hb hby at_96) rfl k) ?_
      show Good p e below _ (T22.setTop (mkF m 97 #[.val (.long q0), .second, .val (.long q1), .second, .val (.long q2), .second, .val (.long q3), .second, .val (.int p4), .val (.int p5), .val (.int (1 : Int32)), .val (.int stt), .val (.ref b16), .val (.int (1 : Int32))] [(.long q0), (.long (own_upd 0 q0 q3 stt))]))
      refine Good.back (fun _ k => XS.lload X22.here hx rfl (hb hby at_97) rfl k) ?_
      show Good p e below _ (T22.setTop (mkF m 99 #[.val (.long q0), .second, .val (.long q1), .second, .val (.long q2), .second, .val (.long q3), .second, .val (.int p4), .val (.int p5), .val (.int (1 : Int32)), .val (.int stt), .val (.ref b16), .val (.int (1 : Int32))] [(.long q3), (.long q0), (.long (own_upd 0 q0 q3 stt))]))
      refine Good.back (fun _ k => XS.iload X22.here hx rfl (hb hby at_99) rfl k) ?_
      show Good p e below _ (T22.setTop (mkF m 101 #[.val (.long q0), .second, .val (.long q1), .second, .val (.long q2), .second, .val (.long q3), .second, .val (.int p4), .val (.int p5), .val (.int (1 : Int32)), .val (.int stt), .val (.ref b16), .val (.int (1 : Int32))] [(.int stt), (.long q3), (.long q0), (.long (own_upd 0 q0 q3 stt))]))
      obtain ⟨_, _, ⟨T25, L25, k25, n25⟩, -, X25, ⟨Lc25, hQ25, l25, y25, z25⟩, st25⟩ := Jvm.LawKit.callS X22 hx (y := (⟨"com/example/fradno/fradno/core/CellSetOrPinLaw", "moved", "(JI)J"⟩ : MethodName)) hown (mvT hZ (hw _ (List.mem_of_getElem? (i := 6) rfl))) (mvT hZ (hw _ (List.mem_of_getElem? (i := 7) rfl))) (mvT hZ (hw _ (List.mem_of_getElem? (i := 8) rfl))) (mvT hZ (hw _ (List.mem_of_getElem? (i := 9) rfl))) (by decide) (backOf (W := 4) (rm2 l Z a0 hw [] q3 stt  T22.heap n0 Z23 ) hZ (hw _ (List.mem_of_getElem? (i := 9) rfl)) (hw _ (List.mem_of_getElem? (i := 8) rfl)) (by decide) (by decide)) (g := (mkF m 101 #[.val (.long q0), .second, .val (.long q1), .second, .val (.long q2), .second, .val (.long q3), .second, .val (.int p4), .val (.int p5), .val (.int (1 : Int32)), .val (.int stt), .val (.ref b16), .val (.int (1 : Int32))] [(.int stt), (.long q3), (.long q0), (.long (own_upd 0 q0 q3 stt))])) rfl (by rw [hml]; rfl) (argsL := [(.long q3), (.int stt)]) (rest := [(.long q0), (.long (own_upd 0 q0 q3 stt))]) (lenOf own_pd63 rfl) rfl (by show 2 * 0 + _ ≤ _; exact Nat.le_of_eq rfl) (hb hby at_101) (fun _ _ => ⟨rfl, rfl, (by decide : 1 + 0 ≤ _), (by decide : 1 + 0 ≤ _)⟩)
      dsimp only [Pt.U, Pt.locs, Pt.cells, Pt.slots] at X25 l25 y25 z25 st25 hQ25
      subst l25 y25 z25
      obtain ⟨rfl, N25q, eh25⟩ := hQ25
      have N25 := Fr.app N22 N25q
      refine Good.back st25 ?_
      show Good p e below _ (T25.setTop (mkF m 104 #[.val (.long q0), .second, .val (.long q1), .second, .val (.long q2), .second, .val (.long q3), .second, .val (.int p4), .val (.int p5), .val (.int (1 : Int32)), .val (.int stt), .val (.ref b16), .val (.int (1 : Int32))] [(.long (own_moved q3 stt)), (.long q0), (.long (own_upd 0 q0 q3 stt))]))
      refine Good.back (fun _ k => XS.lor X25.here hx rfl (hb hby at_104) rfl k) ?_
      show Good p e below _ (T25.setTop (mkF m 105 #[.val (.long q0), .second, .val (.long q1), .second, .val (.long q2), .second, .val (.long q3), .second, .val (.int p4), .val (.int p5), .val (.int (1 : Int32)), .val (.int stt), .val (.ref b16), .val (.int (1 : Int32))] [(.long (q0 ||| (own_moved q3 stt))), (.long (own_upd 0 q0 q3 stt))]))
      refine Good.back (fun _ k => XS.lcmp X25.here hx rfl (hb hby at_105) rfl k) ?_
      show Good p e below _ (T25.setTop (mkF m 106 #[.val (.long q0), .second, .val (.long q1), .second, .val (.long q2), .second, .val (.long q3), .second, .val (.int p4), .val (.int p5), .val (.int (1 : Int32)), .val (.int stt), .val (.ref b16), .val (.int (1 : Int32))] [(.int (lcmpW (own_upd 0 q0 q3 stt) (q0 ||| (own_moved q3 stt))))]))
      refine Good.back (fun _ k => XS.ifNo X25.here hx rfl (hb hby at_106) rfl ((if0 _ _).trans (teq ((lw_eq _ _).mpr (own_law 0 stt _ _ _ hst (by omega) (by decide)) : (lcmpW (own_upd 0 q0 q3 stt) (q0 ||| (own_moved q3 stt))) = (0 : Int32))).2) k) ?_
      show Good p e below _ (T25.setTop (mkF m 109 #[.val (.long q0), .second, .val (.long q1), .second, .val (.long q2), .second, .val (.long q3), .second, .val (.int p4), .val (.int p5), .val (.int (1 : Int32)), .val (.int stt), .val (.ref b16), .val (.int (1 : Int32))] []))
      refine Good.back (fun _ k => XS.iconst X25.here hx rfl (hb hby at_109) k) ?_
      show Good p e below _ (T25.setTop (mkF m 110 #[.val (.long q0), .second, .val (.long q1), .second, .val (.long q2), .second, .val (.long q3), .second, .val (.int p4), .val (.int p5), .val (.int (1 : Int32)), .val (.int stt), .val (.ref b16), .val (.int (1 : Int32))] [(.int (1 : Int32))]))
      refine Good.back (fun _ k => XS.goto X25.here hx rfl (pc0 := 110) (pc' := 114) rfl (hb hby at_110) (by decide) (by decide) k) ?_
      show Good p e below _ (T25.setTop (mkF m 114 #[.val (.long q0), .second, .val (.long q1), .second, .val (.long q2), .second, .val (.long q3), .second, .val (.int p4), .val (.int p5), .val (.int (1 : Int32)), .val (.int stt), .val (.ref b16), .val (.int (1 : Int32))] [(.int (1 : Int32))]))
      refine Good.back (fun _ k => XS.istore X25.here hx rfl (hb hby at_114) rfl (l' := #[.val (.long q0), .second, .val (.long q1), .second, .val (.long q2), .second, .val (.long q3), .second, .val (.int p4), .val (.int p5), .val (.int (1 : Int32)), .val (.int stt), .val (.ref b16), .val (.int (1 : Int32))]) rfl k) ?_
      show Good p e below _ (T25.setTop (mkF m 116 #[.val (.long q0), .second, .val (.long q1), .second, .val (.long q2), .second, .val (.long q3), .second, .val (.int p4), .val (.int p5), .val (.int (1 : Int32)), .val (.int stt), .val (.ref b16), .val (.int (1 : Int32))] []))
      refine Good.back (fun _ k => XS.iload X25.here hx rfl (hb hby at_116) rfl k) ?_
      show Good p e below _ (T25.setTop (mkF m 118 #[.val (.long q0), .second, .val (.long q1), .second, .val (.long q2), .second, .val (.long q3), .second, .val (.int p4), .val (.int p5), .val (.int (1 : Int32)), .val (.int stt), .val (.ref b16), .val (.int (1 : Int32))] [(.int (1 : Int32))]))
      refine Good.back (fun _ k => XS.iconst X25.here hx rfl (hb hby at_118) k) ?_
      show Good p e below _ (T25.setTop (mkF m 119 #[.val (.long q0), .second, .val (.long q1), .second, .val (.long q2), .second, .val (.long q3), .second, .val (.int p4), .val (.int p5), .val (.int (1 : Int32)), .val (.int stt), .val (.ref b16), .val (.int (1 : Int32))] [(.int (1 : Int32)), (.int (1 : Int32))]))
      refine Good.back (fun _ k => XS.icmpYes X25.here hx rfl (pc0 := 119) (pc' := 154) rfl (hb hby at_119) rfl (flt (by decide : ¬ ((1 : Int32) < (1 : Int32)))).2.2.2 (by decide) (by decide) k) ?_
      show Good p e below _ (T25.setTop (mkF m 154 #[.val (.long q0), .second, .val (.long q1), .second, .val (.long q2), .second, .val (.long q3), .second, .val (.int p4), .val (.int p5), .val (.int (1 : Int32)), .val (.int stt), .val (.ref b16), .val (.int (1 : Int32))] []))
      refine Good.back (fun _ k => XS.iload X25.here hx rfl (hb hby at_154) rfl k) ?_
      show Good p e below _ (T25.setTop (mkF m 156 #[.val (.long q0), .second, .val (.long q1), .second, .val (.long q2), .second, .val (.long q3), .second, .val (.int p4), .val (.int p5), .val (.int (1 : Int32)), .val (.int stt), .val (.ref b16), .val (.int (1 : Int32))] [(.int (1 : Int32))]))
      refine Good.back (fun _ k => XS.iconst X25.here hx rfl (hb hby at_156) k) ?_
      show Good p e below _ (T25.setTop (mkF m 157 #[.val (.long q0), .second, .val (.long q1), .second, .val (.long q2), .second, .val (.long q3), .second, .val (.int p4), .val (.int p5), .val (.int (1 : Int32)), .val (.int stt), .val (.ref b16), .val (.int (1 : Int32))] [(.int (2 : Int32)), (.int (1 : Int32))]))
      refine Good.back (fun _ k => XS.icmpYes X25.here hx rfl (pc0 := 157) (pc' := 194) rfl (hb hby at_157) rfl (flt (by decide : ¬ ((2 : Int32) < (1 : Int32)))).2.2.2 (by decide) (by decide) k) ?_
      show Good p e below _ (T25.setTop (mkF m 194 #[.val (.long q0), .second, .val (.long q1), .second, .val (.long q2), .second, .val (.long q3), .second, .val (.int p4), .val (.int p5), .val (.int (1 : Int32)), .val (.int stt), .val (.ref b16), .val (.int (1 : Int32))] []))
      refine Good.back (fun _ k => XS.iload X25.here hx rfl (hb hby at_194) rfl k) ?_
      show Good p e below _ (T25.setTop (mkF m 196 #[.val (.long q0), .second, .val (.long q1), .second, .val (.long q2), .second, .val (.long q3), .second, .val (.int p4), .val (.int p5), .val (.int (1 : Int32)), .val (.int stt), .val (.ref b16), .val (.int (1 : Int32))] [(.int (1 : Int32))]))
      obtain ⟨fs26, hr26, hrun26, hended26, hW26, hsame26⟩ := X25.leave (v := some (.int (1 : Int32))) (fun h => by rw [Bd.returns] at h; cases h)
      refine Good.done (retN X25 hx (t := .boolean) Bd.returns (by simp) (hb hby at_196) hr26) hrun26 hended26 ⟨_, _, rfl, ?_, ⟨_, rfl⟩, hW26, hsame26.mono (by decide) (by decide)⟩
      show Q0 Z q0 q1 q2 q3 p4 p5 h0 n0 _ T25.heap _
      rw [eh25]
      exact ⟨rfl, N25⟩
    · refine Good.back (fun _ k => XS.ifNo X0.here hx rfl (hb hby at_12) rfl ((if0 _ _).trans (feq hc12_15).1) k) ?_
      show Good p e below _ (s₁.setTop (mkF m 15 #[.val (.long q0), .second, .val (.long q1), .second, .val (.long q2), .second, .val (.long q3), .second, .val (.int p4), .val (.int p5), .val (.int (1 : Int32)), .unset, .unset, .unset] []))
      refine Good.back (fun _ k => XS.iload X0.here hx rfl (hb hby at_15) rfl k) ?_
      show Good p e below _ (s₁.setTop (mkF m 17 #[.val (.long q0), .second, .val (.long q1), .second, .val (.long q2), .second, .val (.long q3), .second, .val (.int p4), .val (.int p5), .val (.int (1 : Int32)), .unset, .unset, .unset] [(.int p4)]))
      refine Good.back (fun _ k => XS.sipush X0.here hx rfl (hb hby at_17) k) ?_
      show Good p e below _ (s₁.setTop (mkF m 20 #[.val (.long q0), .second, .val (.long q1), .second, .val (.long q2), .second, .val (.long q3), .second, .val (.int p4), .val (.int p5), .val (.int (1 : Int32)), .unset, .unset, .unset] [(.int (255 : Int32)), (.int p4)]))
      refine Good.back (fun _ k => XS.iand X0.here hx rfl (hb hby at_20) rfl k) ?_
      show Good p e below _ (s₁.setTop (mkF m 21 #[.val (.long q0), .second, .val (.long q1), .second, .val (.long q2), .second, .val (.long q3), .second, .val (.int p4), .val (.int p5), .val (.int (1 : Int32)), .unset, .unset, .unset] [(.int (p4 &&& (255 : Int32)))]))
      refine Good.back (fun _ k => XS.goto X0.here hx rfl (pc0 := 21) (pc' := 29) rfl (hb hby at_21) (by decide) (by decide) k) ?_
      show Good p e below _ (s₁.setTop (mkF m 29 #[.val (.long q0), .second, .val (.long q1), .second, .val (.long q2), .second, .val (.long q3), .second, .val (.int p4), .val (.int p5), .val (.int (1 : Int32)), .unset, .unset, .unset] [(.int (p4 &&& (255 : Int32)))]))
      refine Good.back (fun _ k => XS.istore X0.here hx rfl (hb hby at_29) rfl (l' := #[.val (.long q0), .second, .val (.long q1), .second, .val (.long q2), .second, .val (.long q3), .second, .val (.int p4), .val (.int p5), .val (.int (1 : Int32)), .val (.int (p4 &&& (255 : Int32))), .unset, .unset]) rfl k) ?_
      show Good p e below _ (s₁.setTop (mkF m 31 #[.val (.long q0), .second, .val (.long q1), .second, .val (.long q2), .second, .val (.long q3), .second, .val (.int p4), .val (.int p5), .val (.int (1 : Int32)), .val (.int (p4 &&& (255 : Int32))), .unset, .unset] []))
      obtain ⟨stt, hstt⟩ : ∃ z, z = (p4 &&& (255 : Int32)) := ⟨_, rfl⟩
      rw [← hstt]
      have hst : 0 ≤ stt.toInt := by rw [hstt]; exact (c_and _ _ (by decide)).1
      show Good p e below _ (s₁.setTop (mkF m 31 #[.val (.long q0), .second, .val (.long q1), .second, .val (.long q2), .second, .val (.long q3), .second, .val (.int p4), .val (.int p5), .val (.int (1 : Int32)), .val (.int stt), .unset, .unset] []))
      refine Good.back (fun _ k => XS.iload X0.here hx rfl (hb hby at_31) rfl k) ?_
      show Good p e below _ (s₁.setTop (mkF m 33 #[.val (.long q0), .second, .val (.long q1), .second, .val (.long q2), .second, .val (.long q3), .second, .val (.int p4), .val (.int p5), .val (.int (1 : Int32)), .val (.int stt), .unset, .unset] [(.int (1 : Int32))]))
      obtain ⟨T27, h27, k27, X27, e27, E27, A27, st27⟩ := newP X0 hx hZ (hw _ (List.mem_of_getElem? (i := 1) rfl)) e0 (g := (mkF m 33 #[.val (.long q0), .second, .val (.long q1), .second, .val (.long q2), .second, .val (.long q3), .second, .val (.int p4), .val (.int p5), .val (.int (1 : Int32)), .val (.int stt), .unset, .unset] [(.int (1 : Int32))])) rfl (hb hby at_33) rfl (by decide) (cap := 1) (by decide) (by decide) (by decide) (by decide)
      obtain ⟨b27, g27⟩ : ∃ z, z = h0.size := ⟨_, rfl⟩
      rw [← g27] at A27 st27
      refine Good.back st27 ?_
      have g_b27 : n0 ≤ b27 := Nat.le_trans Z0 (Nat.le_of_eq g27.symm)
      have Z28 : n0 ≤ h27.size := Nat.le_trans Z0 E27.1
      have f_29 : Arv Z h27 b27 k27 .long (1 : Int32) [(.long (0 : Int64))] (.long (0 : Int64)) := (Arv.new A27 (by decide)).pad (pad_rep [] (.long (0 : Int64)) 1)
      show Good p e below _ (T27.setTop (mkF m 35 #[.val (.long q0), .second, .val (.long q1), .second, .val (.long q2), .second, .val (.long q3), .second, .val (.int p4), .val (.int p5), .val (.int (1 : Int32)), .val (.int stt), .unset, .unset] [(.ref b27)]))
      refine Good.back (fun _ k => XS.astore X27.here hx rfl (hb hby at_35) rfl rfl (l' := #[.val (.long q0), .second, .val (.long q1), .second, .val (.long q2), .second, .val (.long q3), .second, .val (.int p4), .val (.int p5), .val (.int (1 : Int32)), .val (.int stt), .val (.ref b27), .unset]) rfl k) ?_
      show Good p e below _ (T27.setTop (mkF m 37 #[.val (.long q0), .second, .val (.long q1), .second, .val (.long q2), .second, .val (.long q3), .second, .val (.int p4), .val (.int p5), .val (.int (1 : Int32)), .val (.int stt), .val (.ref b27), .unset] []))
      refine Good.back (fun _ k => XS.iload X27.here hx rfl (hb hby at_37) rfl k) ?_
      show Good p e below _ (T27.setTop (mkF m 39 #[.val (.long q0), .second, .val (.long q1), .second, .val (.long q2), .second, .val (.long q3), .second, .val (.int p4), .val (.int p5), .val (.int (1 : Int32)), .val (.int stt), .val (.ref b27), .unset] [(.int (1 : Int32))]))
      refine Good.back (fun _ k => XS.ifNo X27.here hx rfl (hb hby at_39) rfl ((if0 _ _).trans (tlt (by decide : ((0 : Int32) < (1 : Int32)))).2.2.2) k) ?_
      show Good p e below _ (T27.setTop (mkF m 42 #[.val (.long q0), .second, .val (.long q1), .second, .val (.long q2), .second, .val (.long q3), .second, .val (.int p4), .val (.int p5), .val (.int (1 : Int32)), .val (.int stt), .val (.ref b27), .unset] []))
      refine Good.back (fun _ k => XS.aload X27.here hx rfl (hb hby at_42) rfl rfl k) ?_
      show Good p e below _ (T27.setTop (mkF m 44 #[.val (.long q0), .second, .val (.long q1), .second, .val (.long q2), .second, .val (.long q3), .second, .val (.int p4), .val (.int p5), .val (.int (1 : Int32)), .val (.int stt), .val (.ref b27), .unset] [(.ref b27)]))
      refine Good.back (fun _ k => XS.iconst X27.here hx rfl (hb hby at_44) k) ?_
      show Good p e below _ (T27.setTop (mkF m 45 #[.val (.long q0), .second, .val (.long q1), .second, .val (.long q2), .second, .val (.long q3), .second, .val (.int p4), .val (.int p5), .val (.int (1 : Int32)), .val (.int stt), .val (.ref b27), .unset] [(.int (0 : Int32)), (.ref b27)]))
      refine Good.back (fun _ k => XS.lloadN X27.here hx rfl (hb hby at_45) rfl k) ?_
      show Good p e below _ (T27.setTop (mkF m 46 #[.val (.long q0), .second, .val (.long q1), .second, .val (.long q2), .second, .val (.long q3), .second, .val (.int p4), .val (.int p5), .val (.int (1 : Int32)), .val (.int stt), .val (.ref b27), .unset] [(.long q0), (.int (0 : Int32)), (.ref b27)]))
      have fc30 := f_29
      obtain ⟨cl30, Ar30, qk30, S30, N30', H30, G30⟩ := fc30
      have hin30 : ¬ ((0 : Int32) < 0 ∨ cl30.slots.size ≤ ((0 : Int32)).toNatClampNeg) := inb_of S30 ⟨by decide, by decide⟩
      obtain ⟨T30, h30, X30, e30, W30, st30⟩ := stJ X27 hx hZ e27 Ar30 (j := (0 : Int32)) hin30 (g := (mkF m 46 #[.val (.long q0), .second, .val (.long q1), .second, .val (.long q2), .second, .val (.long q3), .second, .val (.int p4), .val (.int p5), .val (.int (1 : Int32)), .val (.int stt), .val (.ref b27), .unset] [(.long q0), (.int (0 : Int32)), (.ref b27)])) rfl rfl (hb hby at_46)
      refine Good.back st30 ?_
      have f_31 : Arv Z h30 b27 k27 .long (1 : Int32) [(.long q0)] (.long (0 : Int64)) := Arv.set Ar30 qk30 S30 N30' H30 G30 rfl W30 0 rfl (Nat.le_of_ble_eq_true rfl)
      have N30 := Fr.snoc X30 N0 g_b27
      have Z32 : n0 ≤ h30.size := Nat.le_trans Z28 (Keep.of_wr W30).1
      show Good p e below _ (T30.setTop (mkF m 47 #[.val (.long q0), .second, .val (.long q1), .second, .val (.long q2), .second, .val (.long q3), .second, .val (.int p4), .val (.int p5), .val (.int (1 : Int32)), .val (.int stt), .val (.ref b27), .unset] []))
      refine Good.back (fun _ k => XS.iload X30.here hx rfl (hb hby at_47) rfl k) ?_
      show Good p e below _ (T30.setTop (mkF m 49 #[.val (.long q0), .second, .val (.long q1), .second, .val (.long q2), .second, .val (.long q3), .second, .val (.int p4), .val (.int p5), .val (.int (1 : Int32)), .val (.int stt), .val (.ref b27), .unset] [(.int (1 : Int32))]))
      refine Good.back (fun _ k => XS.iconst X30.here hx rfl (hb hby at_49) k) ?_
      show Good p e below _ (T30.setTop (mkF m 50 #[.val (.long q0), .second, .val (.long q1), .second, .val (.long q2), .second, .val (.long q3), .second, .val (.int p4), .val (.int p5), .val (.int (1 : Int32)), .val (.int stt), .val (.ref b27), .unset] [(.int (1 : Int32)), (.int (1 : Int32))]))
      refine Good.back (fun _ k => XS.icmpYes X30.here hx rfl (pc0 := 50) (pc' := 58) rfl (hb hby at_50) rfl (flt (by decide : ¬ ((1 : Int32) < (1 : Int32)))).2.2.2 (by decide) (by decide) k) ?_
      show Good p e below _ (T30.setTop (mkF m 58 #[.val (.long q0), .second, .val (.long q1), .second, .val (.long q2), .second, .val (.long q3), .second, .val (.int p4), .val (.int p5), .val (.int (1 : Int32)), .val (.int stt), .val (.ref b27), .unset] []))
      refine Good.back (fun _ k => XS.iload X30.here hx rfl (hb hby at_58) rfl k) ?_
      show Good p e below _ (T30.setTop (mkF m 60 #[.val (.long q0), .second, .val (.long q1), .second, .val (.long q2), .second, .val (.long q3), .second, .val (.int p4), .val (.int p5), .val (.int (1 : Int32)), .val (.int stt), .val (.ref b27), .unset] [(.int (1 : Int32))]))
      refine Good.back (fun _ k => XS.iconst X30.here hx rfl (hb hby at_60) k) ?_
      show Good p e below _ (T30.setTop (mkF m 61 #[.val (.long q0), .second, .val (.long q1), .second, .val (.long q2), .second, .val (.long q3), .second, .val (.int p4), .val (.int p5), .val (.int (1 : Int32)), .val (.int stt), .val (.ref b27), .unset] [(.int (2 : Int32)), (.int (1 : Int32))]))
      refine Good.back (fun _ k => XS.icmpYes X30.here hx rfl (pc0 := 61) (pc' := 70) rfl (hb hby at_61) rfl (flt (by decide : ¬ ((2 : Int32) < (1 : Int32)))).2.2.2 (by decide) (by decide) k) ?_
      show Good p e below _ (T30.setTop (mkF m 70 #[.val (.long q0), .second, .val (.long q1), .second, .val (.long q2), .second, .val (.long q3), .second, .val (.int p4), .val (.int p5), .val (.int (1 : Int32)), .val (.int stt), .val (.ref b27), .unset] []))
      refine Good.back (fun _ k => XS.aload X30.here hx rfl (hb hby at_70) rfl rfl k) ?_
      show Good p e below _ (T30.setTop (mkF m 72 #[.val (.long q0), .second, .val (.long q1), .second, .val (.long q2), .second, .val (.long q3), .second, .val (.int p4), .val (.int p5), .val (.int (1 : Int32)), .val (.int stt), .val (.ref b27), .unset] [(.ref b27)]))
      refine Good.back (fun _ k => XS.lload X30.here hx rfl (hb hby at_72) rfl k) ?_
      show Good p e below _ (T30.setTop (mkF m 74 #[.val (.long q0), .second, .val (.long q1), .second, .val (.long q2), .second, .val (.long q3), .second, .val (.int p4), .val (.int p5), .val (.int (1 : Int32)), .val (.int stt), .val (.ref b27), .unset] [(.long q3), (.ref b27)]))
      refine Good.back (fun _ k => XS.iload X30.here hx rfl (hb hby at_74) rfl k) ?_
      show Good p e below _ (T30.setTop (mkF m 76 #[.val (.long q0), .second, .val (.long q1), .second, .val (.long q2), .second, .val (.long q3), .second, .val (.int p4), .val (.int p5), .val (.int (1 : Int32)), .val (.int stt), .val (.ref b27), .unset] [(.int stt), (.long q3), (.ref b27)]))
      obtain ⟨_, _, ⟨T33, L33, k33, n33⟩, -, X33, ⟨Lc33, hQ33, l33, y33, z33⟩, st33⟩ := Jvm.LawKit.callS X30 hx (y := (⟨"com/example/fradno/fradno/core/CellSet", "or", "([JJI)V"⟩ : MethodName)) hown (mvT hZ (hw _ (List.mem_of_getElem? (i := 2) rfl))) (mvT hZ (hw _ (List.mem_of_getElem? (i := 3) rfl))) (mvT hZ (hw _ (List.mem_of_getElem? (i := 4) rfl))) (mvT hZ (hw _ (List.mem_of_getElem? (i := 5) rfl))) (by decide) (backOf (W := 0) (rm1_1 l Z a0 hw [] b27 q3 stt k27 q0 h30 n0 Z32 f_31 g_b27 (hst)) hZ (hw _ (List.mem_of_getElem? (i := 5) rfl)) (hw _ (List.mem_of_getElem? (i := 4) rfl)) (by decide) (by decide)) (g := (mkF m 76 #[.val (.long q0), .second, .val (.long q1), .second, .val (.long q2), .second, .val (.long q3), .second, .val (.int p4), .val (.int p5), .val (.int (1 : Int32)), .val (.int stt), .val (.ref b27), .unset] [(.int stt), (.long q3), (.ref b27)])) rfl (by rw [hml]; rfl) (argsL := [(.ref b27), (.long q3), (.int stt)]) (rest := []) (lenOf own_pd62 rfl) rfl (by show 2 * 0 + _ ≤ _; exact Nat.le_of_eq rfl) (hb hby at_76) (fun _ _ => ⟨rfl, e30, (by decide : 1 + 0 ≤ _), (by decide : 1 + 0 ≤ _)⟩)
      dsimp only [Pt.U, Pt.locs, Pt.cells, Pt.slots] at X33 l33 y33 z33 st33 hQ33
      subst l33 y33 z33
      obtain ⟨rfl, N33q, Kq33, o33_0⟩ := hQ33
      have N33 := Fr.app N30 N33q
      have Z34 : n0 ≤ T33.heap.size := Nat.le_trans Z32 Kq33.1
      refine Good.back st33 ?_
      show Good p e below _ (T33.setTop (mkF m 79 #[.val (.long q0), .second, .val (.long q1), .second, .val (.long q2), .second, .val (.long q3), .second, .val (.int p4), .val (.int p5), .val (.int (1 : Int32)), .val (.int stt), .val (.ref b27), .unset] []))
      refine Good.back (fun _ k => XS.iconst X33.here hx rfl (hb hby at_79) k) ?_
      show Good p e below _ (T33.setTop (mkF m 80 #[.val (.long q0), .second, .val (.long q1), .second, .val (.long q2), .second, .val (.long q3), .second, .val (.int p4), .val (.int p5), .val (.int (1 : Int32)), .val (.int stt), .val (.ref b27), .unset] [(.int (1 : Int32))]))
      refine Good.back (fun _ k => XS.istore X33.here hx rfl (hb hby at_80) rfl (l' := #[.val (.long q0), .second, .val (.long q1), .second, .val (.long q2), .second, .val (.long q3), .second, .val (.int p4), .val (.int p5), .val (.int (1 : Int32)), .val (.int stt), .val (.ref b27), .val (.int (1 : Int32))]) rfl k) ?_
      show Good p e below _ (T33.setTop (mkF m 82 #[.val (.long q0), .second, .val (.long q1), .second, .val (.long q2), .second, .val (.long q3), .second, .val (.int p4), .val (.int p5), .val (.int (1 : Int32)), .val (.int stt), .val (.ref b27), .val (.int (1 : Int32))] []))
      refine Good.back (fun _ k => XS.iload X33.here hx rfl (hb hby at_82) rfl k) ?_
      show Good p e below _ (T33.setTop (mkF m 84 #[.val (.long q0), .second, .val (.long q1), .second, .val (.long q2), .second, .val (.long q3), .second, .val (.int p4), .val (.int p5), .val (.int (1 : Int32)), .val (.int stt), .val (.ref b27), .val (.int (1 : Int32))] [(.int (1 : Int32))]))
      refine Good.back (fun _ k => XS.ifNo X33.here hx rfl (hb hby at_84) rfl ((if0 _ _).trans (tlt (by decide : ((0 : Int32) < (1 : Int32)))).2.2.2) k) ?_
      show Good p e below _ (T33.setTop (mkF m 87 #[.val (.long q0), .second, .val (.long q1), .second, .val (.long q2), .second, .val (.long q3), .second, .val (.int p4), .val (.int p5), .val (.int (1 : Int32)), .val (.int stt), .val (.ref b27), .val (.int (1 : Int32))] []))
      refine Good.back (fun _ k => XS.iload X33.here hx rfl (hb hby at_87) rfl k) ?_
      show Good p e below _ (T33.setTop (mkF m 89 #[.val (.long q0), .second, .val (.long q1), .second, .val (.long q2), .second, .val (.long q3), .second, .val (.int p4), .val (.int p5), .val (.int (1 : Int32)), .val (.int stt), .val (.ref b27), .val (.int (1 : Int32))] [(.int (1 : Int32))]))
      refine Good.back (fun _ k => XS.ifNo X33.here hx rfl (hb hby at_89) rfl ((if0 _ _).trans (feq (by decide : ¬ ((1 : Int32) = (0 : Int32)))).1) k) ?_
      show Good p e below _ (T33.setTop (mkF m 92 #[.val (.long q0), .second, .val (.long q1), .second, .val (.long q2), .second, .val (.long q3), .second, .val (.int p4), .val (.int p5), .val (.int (1 : Int32)), .val (.int stt), .val (.ref b27), .val (.int (1 : Int32))] []))
      refine Good.back (fun _ k => XS.aload X33.here hx rfl (hb hby at_92) rfl rfl k) ?_
      show Good p e below _ (T33.setTop (mkF m 94 #[.val (.long q0), .second, .val (.long q1), .second, .val (.long q2), .second, .val (.long q3), .second, .val (.int p4), .val (.int p5), .val (.int (1 : Int32)), .val (.int stt), .val (.ref b27), .val (.int (1 : Int32))] [(.ref b27)]))
      refine Good.back (fun _ k => XS.iconst X33.here hx rfl (hb hby at_94) k) ?_
      show Good p e below _ (T33.setTop (mkF m 95 #[.val (.long q0), .second, .val (.long q1), .second, .val (.long q2), .second, .val (.long q3), .second, .val (.int p4), .val (.int p5), .val (.int (1 : Int32)), .val (.int stt), .val (.ref b27), .val (.int (1 : Int32))] [(.int (0 : Int32)), (.ref b27)]))
      have fc35 := o33_0
      obtain ⟨cl35, Ar35, qk35, S35, N35', H35, G35⟩ := fc35
      have hin35 : ¬ ((0 : Int32) < 0 ∨ cl35.slots.size ≤ ((0 : Int32)).toNatClampNeg) := inb_of S35 ⟨by decide, by decide⟩
      have hat35 : cl35.slots[((0 : Int32)).toNatClampNeg]? = some (.long (own_upd 0 q0 q3 stt)) := Has.at H35 hin35 rfl
      refine Good.back (X33.laload hx (j := (0 : Int32)) (v := (.long (own_upd 0 q0 q3 stt))) (Ar35.1) (State.isArrayOf_alike hZ.alike Ar35.2.1) Ar35.2.2 hin35 hat35 (g := (mkF m 95 #[.val (.long q0), .second, .val (.long q1), .second, .val (.long q2), .second, .val (.long q3), .second, .val (.int p4), .val (.int p5), .val (.int (1 : Int32)), .val (.int stt), .val (.ref b27), .val (.int (1 : Int32))] [(.int (0 : Int32)), (.ref b27)])) rfl rfl (hb hby at_95)) ?_
      show Good p e below _ (T33.setTop (mkF m 96 #[.val (.long q0), .second, .val (.long q1), .second, .val (.long q2), .second, .val (.long q3), .second, .val (.int p4), .val (.int p5), .val (.int (1 : Int32)), .val (.int stt), .val (.ref b27), .val (.int (1 : Int32))] [(.long (own_upd 0 q0 q3 stt))]))
      refine Good.back (fun _ k => XS.lloadN X33.here hx rfl (hb hby at_96) rfl k) ?_
      show Good p e below _ (T33.setTop (mkF m 97 #[.val (.long q0), .second, .val (.long q1), .second, .val (.long q2), .second, .val (.long q3), .second, .val (.int p4), .val (.int p5), .val (.int (1 : Int32)), .val (.int stt), .val (.ref b27), .val (.int (1 : Int32))] [(.long q0), (.long (own_upd 0 q0 q3 stt))]))
      refine Good.back (fun _ k => XS.lload X33.here hx rfl (hb hby at_97) rfl k) ?_
      show Good p e below _ (T33.setTop (mkF m 99 #[.val (.long q0), .second, .val (.long q1), .second, .val (.long q2), .second, .val (.long q3), .second, .val (.int p4), .val (.int p5), .val (.int (1 : Int32)), .val (.int stt), .val (.ref b27), .val (.int (1 : Int32))] [(.long q3), (.long q0), (.long (own_upd 0 q0 q3 stt))]))
      refine Good.back (fun _ k => XS.iload X33.here hx rfl (hb hby at_99) rfl k) ?_
      show Good p e below _ (T33.setTop (mkF m 101 #[.val (.long q0), .second, .val (.long q1), .second, .val (.long q2), .second, .val (.long q3), .second, .val (.int p4), .val (.int p5), .val (.int (1 : Int32)), .val (.int stt), .val (.ref b27), .val (.int (1 : Int32))] [(.int stt), (.long q3), (.long q0), (.long (own_upd 0 q0 q3 stt))]))
      obtain ⟨_, _, ⟨T36, L36, k36, n36⟩, -, X36, ⟨Lc36, hQ36, l36, y36, z36⟩, st36⟩ := Jvm.LawKit.callS X33 hx (y := (⟨"com/example/fradno/fradno/core/CellSetOrPinLaw", "moved", "(JI)J"⟩ : MethodName)) hown (mvT hZ (hw _ (List.mem_of_getElem? (i := 6) rfl))) (mvT hZ (hw _ (List.mem_of_getElem? (i := 7) rfl))) (mvT hZ (hw _ (List.mem_of_getElem? (i := 8) rfl))) (mvT hZ (hw _ (List.mem_of_getElem? (i := 9) rfl))) (by decide) (backOf (W := 4) (rm2 l Z a0 hw [] q3 stt  T33.heap n0 Z34 ) hZ (hw _ (List.mem_of_getElem? (i := 9) rfl)) (hw _ (List.mem_of_getElem? (i := 8) rfl)) (by decide) (by decide)) (g := (mkF m 101 #[.val (.long q0), .second, .val (.long q1), .second, .val (.long q2), .second, .val (.long q3), .second, .val (.int p4), .val (.int p5), .val (.int (1 : Int32)), .val (.int stt), .val (.ref b27), .val (.int (1 : Int32))] [(.int stt), (.long q3), (.long q0), (.long (own_upd 0 q0 q3 stt))])) rfl (by rw [hml]; rfl) (argsL := [(.long q3), (.int stt)]) (rest := [(.long q0), (.long (own_upd 0 q0 q3 stt))]) (lenOf own_pd63 rfl) rfl (by show 2 * 0 + _ ≤ _; exact Nat.le_of_eq rfl) (hb hby at_101) (fun _ _ => ⟨rfl, rfl, (by decide : 1 + 0 ≤ _), (by decide : 1 + 0 ≤ _)⟩)
      dsimp only [Pt.U, Pt.locs, Pt.cells, Pt.slots] at X36 l36 y36 z36 st36 hQ36
      subst l36 y36 z36
      obtain ⟨rfl, N36q, eh36⟩ := hQ36
      have N36 := Fr.app N33 N36q
      refine Good.back st36 ?_
      show Good p e below _ (T36.setTop (mkF m 104 #[.val (.long q0), .second, .val (.long q1), .second, .val (.long q2), .second, .val (.long q3), .second, .val (.int p4), .val (.int p5), .val (.int (1 : Int32)), .val (.int stt), .val (.ref b27), .val (.int (1 : Int32))] [(.long (own_moved q3 stt)), (.long q0), (.long (own_upd 0 q0 q3 stt))]))
      refine Good.back (fun _ k => XS.lor X36.here hx rfl (hb hby at_104) rfl k) ?_
      show Good p e below _ (T36.setTop (mkF m 105 #[.val (.long q0), .second, .val (.long q1), .second, .val (.long q2), .second, .val (.long q3), .second, .val (.int p4), .val (.int p5), .val (.int (1 : Int32)), .val (.int stt), .val (.ref b27), .val (.int (1 : Int32))] [(.long (q0 ||| (own_moved q3 stt))), (.long (own_upd 0 q0 q3 stt))]))
      refine Good.back (fun _ k => XS.lcmp X36.here hx rfl (hb hby at_105) rfl k) ?_
      show Good p e below _ (T36.setTop (mkF m 106 #[.val (.long q0), .second, .val (.long q1), .second, .val (.long q2), .second, .val (.long q3), .second, .val (.int p4), .val (.int p5), .val (.int (1 : Int32)), .val (.int stt), .val (.ref b27), .val (.int (1 : Int32))] [(.int (lcmpW (own_upd 0 q0 q3 stt) (q0 ||| (own_moved q3 stt))))]))
      refine Good.back (fun _ k => XS.ifNo X36.here hx rfl (hb hby at_106) rfl ((if0 _ _).trans (teq ((lw_eq _ _).mpr (own_law 0 stt _ _ _ hst (by omega) (by decide)) : (lcmpW (own_upd 0 q0 q3 stt) (q0 ||| (own_moved q3 stt))) = (0 : Int32))).2) k) ?_
      show Good p e below _ (T36.setTop (mkF m 109 #[.val (.long q0), .second, .val (.long q1), .second, .val (.long q2), .second, .val (.long q3), .second, .val (.int p4), .val (.int p5), .val (.int (1 : Int32)), .val (.int stt), .val (.ref b27), .val (.int (1 : Int32))] []))
      refine Good.back (fun _ k => XS.iconst X36.here hx rfl (hb hby at_109) k) ?_
      show Good p e below _ (T36.setTop (mkF m 110 #[.val (.long q0), .second, .val (.long q1), .second, .val (.long q2), .second, .val (.long q3), .second, .val (.int p4), .val (.int p5), .val (.int (1 : Int32)), .val (.int stt), .val (.ref b27), .val (.int (1 : Int32))] [(.int (1 : Int32))]))
      refine Good.back (fun _ k => XS.goto X36.here hx rfl (pc0 := 110) (pc' := 114) rfl (hb hby at_110) (by decide) (by decide) k) ?_
      show Good p e below _ (T36.setTop (mkF m 114 #[.val (.long q0), .second, .val (.long q1), .second, .val (.long q2), .second, .val (.long q3), .second, .val (.int p4), .val (.int p5), .val (.int (1 : Int32)), .val (.int stt), .val (.ref b27), .val (.int (1 : Int32))] [(.int (1 : Int32))]))
      refine Good.back (fun _ k => XS.istore X36.here hx rfl (hb hby at_114) rfl (l' := #[.val (.long q0), .second, .val (.long q1), .second, .val (.long q2), .second, .val (.long q3), .second, .val (.int p4), .val (.int p5), .val (.int (1 : Int32)), .val (.int stt), .val (.ref b27), .val (.int (1 : Int32))]) rfl k) ?_
      show Good p e below _ (T36.setTop (mkF m 116 #[.val (.long q0), .second, .val (.long q1), .second, .val (.long q2), .second, .val (.long q3), .second, .val (.int p4), .val (.int p5), .val (.int (1 : Int32)), .val (.int stt), .val (.ref b27), .val (.int (1 : Int32))] []))
      refine Good.back (fun _ k => XS.iload X36.here hx rfl (hb hby at_116) rfl k) ?_
      show Good p e below _ (T36.setTop (mkF m 118 #[.val (.long q0), .second, .val (.long q1), .second, .val (.long q2), .second, .val (.long q3), .second, .val (.int p4), .val (.int p5), .val (.int (1 : Int32)), .val (.int stt), .val (.ref b27), .val (.int (1 : Int32))] [(.int (1 : Int32))]))
      refine Good.back (fun _ k => XS.iconst X36.here hx rfl (hb hby at_118) k) ?_
      show Good p e below _ (T36.setTop (mkF m 119 #[.val (.long q0), .second, .val (.long q1), .second, .val (.long q2), .second, .val (.long q3), .second, .val (.int p4), .val (.int p5), .val (.int (1 : Int32)), .val (.int stt), .val (.ref b27), .val (.int (1 : Int32))] [(.int (1 : Int32)), (.int (1 : Int32))]))
      refine Good.back (fun _ k => XS.icmpYes X36.here hx rfl (pc0 := 119) (pc' := 154) rfl (hb hby at_119) rfl (flt (by decide : ¬ ((1 : Int32) < (1 : Int32)))).2.2.2 (by decide) (by decide) k) ?_
      show Good p e below _ (T36.setTop (mkF m 154 #[.val (.long q0), .second, .val (.long q1), .second, .val (.long q2), .second, .val (.long q3), .second, .val (.int p4), .val (.int p5), .val (.int (1 : Int32)), .val (.int stt), .val (.ref b27), .val (.int (1 : Int32))] []))
      refine Good.back (fun _ k => XS.iload X36.here hx rfl (hb hby at_154) rfl k) ?_
      show Good p e below _ (T36.setTop (mkF m 156 #[.val (.long q0), .second, .val (.long q1), .second, .val (.long q2), .second, .val (.long q3), .second, .val (.int p4), .val (.int p5), .val (.int (1 : Int32)), .val (.int stt), .val (.ref b27), .val (.int (1 : Int32))] [(.int (1 : Int32))]))
      refine Good.back (fun _ k => XS.iconst X36.here hx rfl (hb hby at_156) k) ?_
      show Good p e below _ (T36.setTop (mkF m 157 #[.val (.long q0), .second, .val (.long q1), .second, .val (.long q2), .second, .val (.long q3), .second, .val (.int p4), .val (.int p5), .val (.int (1 : Int32)), .val (.int stt), .val (.ref b27), .val (.int (1 : Int32))] [(.int (2 : Int32)), (.int (1 : Int32))]))
      refine Good.back (fun _ k => XS.icmpYes X36.here hx rfl (pc0 := 157) (pc' := 194) rfl (hb hby at_157) rfl (flt (by decide : ¬ ((2 : Int32) < (1 : Int32)))).2.2.2 (by decide) (by decide) k) ?_
      show Good p e below _ (T36.setTop (mkF m 194 #[.val (.long q0), .second, .val (.long q1), .second, .val (.long q2), .second, .val (.long q3), .second, .val (.int p4), .val (.int p5), .val (.int (1 : Int32)), .val (.int stt), .val (.ref b27), .val (.int (1 : Int32))] []))
      refine Good.back (fun _ k => XS.iload X36.here hx rfl (hb hby at_194) rfl k) ?_
      show Good p e below _ (T36.setTop (mkF m 196 #[.val (.long q0), .second, .val (.long q1), .second, .val (.long q2), .second, .val (.long q3), .second, .val (.int p4), .val (.int p5), .val (.int (1 : Int32)), .val (.int stt), .val (.ref b27), .val (.int (1 : Int32))] [(.int (1 : Int32))]))
      obtain ⟨fs37, hr37, hrun37, hended37, hW37, hsame37⟩ := X36.leave (v := some (.int (1 : Int32))) (fun h => by rw [Bd.returns] at h; cases h)
      refine Good.done (retN X36 hx (t := .boolean) Bd.returns (by simp) (hb hby at_196) hr37) hrun37 hended37 ⟨_, _, rfl, ?_, ⟨_, rfl⟩, hW37, hsame37.mono (by decide) (by decide)⟩
      show Q0 Z q0 q1 q2 q3 p4 p5 h0 n0 _ T36.heap _
      rw [eh36]
      exact ⟨rfl, N36⟩
  · have he1' : (((p5.toUInt32 >>> ((1 : Int32) &&& 31).toUInt32).toInt32) &&& (3 : Int32)) = (2 : Int32) := he1
    rw [he1']
    show Good p e below _ (s₁.setTop (mkF m 8 #[.val (.long q0), .second, .val (.long q1), .second, .val (.long q2), .second, .val (.long q3), .second, .val (.int p4), .val (.int p5), .val (.int (2 : Int32)), .unset, .unset, .unset] []))
    refine Good.back (fun _ k => XS.iload X0.here hx rfl (hb hby at_8) rfl k) ?_
    show Good p e below _ (s₁.setTop (mkF m 10 #[.val (.long q0), .second, .val (.long q1), .second, .val (.long q2), .second, .val (.long q3), .second, .val (.int p4), .val (.int p5), .val (.int (2 : Int32)), .unset, .unset, .unset] [(.int p5)]))
    refine Good.back (fun _ k => XS.iconst X0.here hx rfl (hb hby at_10) k) ?_
    show Good p e below _ (s₁.setTop (mkF m 11 #[.val (.long q0), .second, .val (.long q1), .second, .val (.long q2), .second, .val (.long q3), .second, .val (.int p4), .val (.int p5), .val (.int (2 : Int32)), .unset, .unset, .unset] [(.int (1 : Int32)), (.int p5)]))
    refine Good.back (fun _ k => XS.iand X0.here hx rfl (hb hby at_11) rfl k) ?_
    show Good p e below _ (s₁.setTop (mkF m 12 #[.val (.long q0), .second, .val (.long q1), .second, .val (.long q2), .second, .val (.long q3), .second, .val (.int p4), .val (.int p5), .val (.int (2 : Int32)), .unset, .unset, .unset] [(.int (p5 &&& (1 : Int32)))]))
    by_cases hc12_38 : (p5 &&& (1 : Int32)) = (0 : Int32)
    · refine Good.back (fun _ k => XS.ifYes X0.here hx rfl (pc0 := 12) (pc' := 24) rfl (hb hby at_12) rfl ((if0 _ _).trans (teq hc12_38).1) (by decide) (by decide) k) ?_
      show Good p e below _ (s₁.setTop (mkF m 24 #[.val (.long q0), .second, .val (.long q1), .second, .val (.long q2), .second, .val (.long q3), .second, .val (.int p4), .val (.int p5), .val (.int (2 : Int32)), .unset, .unset, .unset] []))
      refine Good.back (fun _ k => XS.iload X0.here hx rfl (hb hby at_24) rfl k) ?_
      show Good p e below _ (s₁.setTop (mkF m 26 #[.val (.long q0), .second, .val (.long q1), .second, .val (.long q2), .second, .val (.long q3), .second, .val (.int p4), .val (.int p5), .val (.int (2 : Int32)), .unset, .unset, .unset] [(.int p4)]))
      refine Good.back (X0.ldcInt hx hown (mvT hZ (hw _ (List.mem_of_getElem? (i := 0) rfl))) (g := (mkF m 26 #[.val (.long q0), .second, .val (.long q1), .second, .val (.long q2), .second, .val (.long q3), .second, .val (.int p4), .val (.int p5), .val (.int (2 : Int32)), .unset, .unset, .unset] [(.int p4)])) rfl (hb hby at_26)) ?_
      show Good p e below _ (s₁.setTop (mkF m 28 #[.val (.long q0), .second, .val (.long q1), .second, .val (.long q2), .second, .val (.long q3), .second, .val (.int p4), .val (.int p5), .val (.int (2 : Int32)), .unset, .unset, .unset] [(.int (2147483647 : Int32)), (.int p4)]))
      refine Good.back (fun _ k => XS.iand X0.here hx rfl (hb hby at_28) rfl k) ?_
      show Good p e below _ (s₁.setTop (mkF m 29 #[.val (.long q0), .second, .val (.long q1), .second, .val (.long q2), .second, .val (.long q3), .second, .val (.int p4), .val (.int p5), .val (.int (2 : Int32)), .unset, .unset, .unset] [(.int (p4 &&& (2147483647 : Int32)))]))
      refine Good.back (fun _ k => XS.istore X0.here hx rfl (hb hby at_29) rfl (l' := #[.val (.long q0), .second, .val (.long q1), .second, .val (.long q2), .second, .val (.long q3), .second, .val (.int p4), .val (.int p5), .val (.int (2 : Int32)), .val (.int (p4 &&& (2147483647 : Int32))), .unset, .unset]) rfl k) ?_
      show Good p e below _ (s₁.setTop (mkF m 31 #[.val (.long q0), .second, .val (.long q1), .second, .val (.long q2), .second, .val (.long q3), .second, .val (.int p4), .val (.int p5), .val (.int (2 : Int32)), .val (.int (p4 &&& (2147483647 : Int32))), .unset, .unset] []))
      obtain ⟨stt, hstt⟩ : ∃ z, z = (p4 &&& (2147483647 : Int32)) := ⟨_, rfl⟩
      rw [← hstt]
      have hst : 0 ≤ stt.toInt := by rw [hstt]; exact (c_and _ _ (by decide)).1
      show Good p e below _ (s₁.setTop (mkF m 31 #[.val (.long q0), .second, .val (.long q1), .second, .val (.long q2), .second, .val (.long q3), .second, .val (.int p4), .val (.int p5), .val (.int (2 : Int32)), .val (.int stt), .unset, .unset] []))
      refine Good.back (fun _ k => XS.iload X0.here hx rfl (hb hby at_31) rfl k) ?_
      show Good p e below _ (s₁.setTop (mkF m 33 #[.val (.long q0), .second, .val (.long q1), .second, .val (.long q2), .second, .val (.long q3), .second, .val (.int p4), .val (.int p5), .val (.int (2 : Int32)), .val (.int stt), .unset, .unset] [(.int (2 : Int32))]))
      obtain ⟨T39, h39, k39, X39, e39, E39, A39, st39⟩ := newP X0 hx hZ (hw _ (List.mem_of_getElem? (i := 1) rfl)) e0 (g := (mkF m 33 #[.val (.long q0), .second, .val (.long q1), .second, .val (.long q2), .second, .val (.long q3), .second, .val (.int p4), .val (.int p5), .val (.int (2 : Int32)), .val (.int stt), .unset, .unset] [(.int (2 : Int32))])) rfl (hb hby at_33) rfl (by decide) (cap := 2) (by decide) (by decide) (by decide) (by decide)
      obtain ⟨b39, g39⟩ : ∃ z, z = h0.size := ⟨_, rfl⟩
      rw [← g39] at A39 st39
      refine Good.back st39 ?_
      have g_b39 : n0 ≤ b39 := Nat.le_trans Z0 (Nat.le_of_eq g39.symm)
      have Z40 : n0 ≤ h39.size := Nat.le_trans Z0 E39.1
      have f_41 : Arv Z h39 b39 k39 .long (2 : Int32) [(.long (0 : Int64)), (.long (0 : Int64))] (.long (0 : Int64)) := (Arv.new A39 (by decide)).pad (pad_rep [] (.long (0 : Int64)) 2)
      show Good p e below _ (T39.setTop (mkF m 35 #[.val (.long q0), .second, .val (.long q1), .second, .val (.long q2), .second, .val (.long q3), .second, .val (.int p4), .val (.int p5), .val (.int (2 : Int32)), .val (.int stt), .unset, .unset] [(.ref b39)]))
      refine Good.back (fun _ k => XS.astore X39.here hx rfl (hb hby at_35) rfl rfl (l' := #[.val (.long q0), .second, .val (.long q1), .second, .val (.long q2), .second, .val (.long q3), .second, .val (.int p4), .val (.int p5), .val (.int (2 : Int32)), .val (.int stt), .val (.ref b39), .unset]) rfl k) ?_
      show Good p e below _ (T39.setTop (mkF m 37 #[.val (.long q0), .second, .val (.long q1), .second, .val (.long q2), .second, .val (.long q3), .second, .val (.int p4), .val (.int p5), .val (.int (2 : Int32)), .val (.int stt), .val (.ref b39), .unset] []))
      refine Good.back (fun _ k => XS.iload X39.here hx rfl (hb hby at_37) rfl k) ?_
      show Good p e below _ (T39.setTop (mkF m 39 #[.val (.long q0), .second, .val (.long q1), .second, .val (.long q2), .second, .val (.long q3), .second, .val (.int p4), .val (.int p5), .val (.int (2 : Int32)), .val (.int stt), .val (.ref b39), .unset] [(.int (2 : Int32))]))
      refine Good.back (fun _ k => XS.ifNo X39.here hx rfl (hb hby at_39) rfl ((if0 _ _).trans (tlt (by decide : ((0 : Int32) < (2 : Int32)))).2.2.2) k) ?_
      show Good p e below _ (T39.setTop (mkF m 42 #[.val (.long q0), .second, .val (.long q1), .second, .val (.long q2), .second, .val (.long q3), .second, .val (.int p4), .val (.int p5), .val (.int (2 : Int32)), .val (.int stt), .val (.ref b39), .unset] []))
      refine Good.back (fun _ k => XS.aload X39.here hx rfl (hb hby at_42) rfl rfl k) ?_
      show Good p e below _ (T39.setTop (mkF m 44 #[.val (.long q0), .second, .val (.long q1), .second, .val (.long q2), .second, .val (.long q3), .second, .val (.int p4), .val (.int p5), .val (.int (2 : Int32)), .val (.int stt), .val (.ref b39), .unset] [(.ref b39)]))
      refine Good.back (fun _ k => XS.iconst X39.here hx rfl (hb hby at_44) k) ?_
      show Good p e below _ (T39.setTop (mkF m 45 #[.val (.long q0), .second, .val (.long q1), .second, .val (.long q2), .second, .val (.long q3), .second, .val (.int p4), .val (.int p5), .val (.int (2 : Int32)), .val (.int stt), .val (.ref b39), .unset] [(.int (0 : Int32)), (.ref b39)]))
      refine Good.back (fun _ k => XS.lloadN X39.here hx rfl (hb hby at_45) rfl k) ?_
      show Good p e below _ (T39.setTop (mkF m 46 #[.val (.long q0), .second, .val (.long q1), .second, .val (.long q2), .second, .val (.long q3), .second, .val (.int p4), .val (.int p5), .val (.int (2 : Int32)), .val (.int stt), .val (.ref b39), .unset] [(.long q0), (.int (0 : Int32)), (.ref b39)]))
      have fc42 := f_41
      obtain ⟨cl42, Ar42, qk42, S42, N42', H42, G42⟩ := fc42
      have hin42 : ¬ ((0 : Int32) < 0 ∨ cl42.slots.size ≤ ((0 : Int32)).toNatClampNeg) := inb_of S42 ⟨by decide, by decide⟩
      obtain ⟨T42, h42, X42, e42, W42, st42⟩ := stJ X39 hx hZ e39 Ar42 (j := (0 : Int32)) hin42 (g := (mkF m 46 #[.val (.long q0), .second, .val (.long q1), .second, .val (.long q2), .second, .val (.long q3), .second, .val (.int p4), .val (.int p5), .val (.int (2 : Int32)), .val (.int stt), .val (.ref b39), .unset] [(.long q0), (.int (0 : Int32)), (.ref b39)])) rfl rfl (hb hby at_46)
      refine Good.back st42 ?_
      have f_43 : Arv Z h42 b39 k39 .long (2 : Int32) [(.long q0), (.long (0 : Int64))] (.long (0 : Int64)) := Arv.set Ar42 qk42 S42 N42' H42 G42 rfl W42 0 rfl (Nat.le_of_ble_eq_true rfl)
      have N42 := Fr.snoc X42 N0 g_b39
      have Z44 : n0 ≤ h42.size := Nat.le_trans Z40 (Keep.of_wr W42).1
      show Good p e below _ (T42.setTop (mkF m 47 #[.val (.long q0), .second, .val (.long q1), .second, .val (.long q2), .second, .val (.long q3), .second, .val (.int p4), .val (.int p5), .val (.int (2 : Int32)), .val (.int stt), .val (.ref b39), .unset] []))
      refine Good.back (fun _ k => XS.iload X42.here hx rfl (hb hby at_47) rfl k) ?_
      show Good p e below _ (T42.setTop (mkF m 49 #[.val (.long q0), .second, .val (.long q1), .second, .val (.long q2), .second, .val (.long q3), .second, .val (.int p4), .val (.int p5), .val (.int (2 : Int32)), .val (.int stt), .val (.ref b39), .unset] [(.int (2 : Int32))]))
      refine Good.back (fun _ k => XS.iconst X42.here hx rfl (hb hby at_49) k) ?_
      show Good p e below _ (T42.setTop (mkF m 50 #[.val (.long q0), .second, .val (.long q1), .second, .val (.long q2), .second, .val (.long q3), .second, .val (.int p4), .val (.int p5), .val (.int (2 : Int32)), .val (.int stt), .val (.ref b39), .unset] [(.int (1 : Int32)), (.int (2 : Int32))]))
      refine Good.back (fun _ k => XS.icmpNo X42.here hx rfl (hb hby at_50) rfl (tlt (by decide : ((1 : Int32) < (2 : Int32)))).2.2.2 k) ?_
      show Good p e below _ (T42.setTop (mkF m 53 #[.val (.long q0), .second, .val (.long q1), .second, .val (.long q2), .second, .val (.long q3), .second, .val (.int p4), .val (.int p5), .val (.int (2 : Int32)), .val (.int stt), .val (.ref b39), .unset] []))
      refine Good.back (fun _ k => XS.aload X42.here hx rfl (hb hby at_53) rfl rfl k) ?_
      show Good p e below _ (T42.setTop (mkF m 55 #[.val (.long q0), .second, .val (.long q1), .second, .val (.long q2), .second, .val (.long q3), .second, .val (.int p4), .val (.int p5), .val (.int (2 : Int32)), .val (.int stt), .val (.ref b39), .unset] [(.ref b39)]))
      refine Good.back (fun _ k => XS.iconst X42.here hx rfl (hb hby at_55) k) ?_
      show Good p e below _ (T42.setTop (mkF m 56 #[.val (.long q0), .second, .val (.long q1), .second, .val (.long q2), .second, .val (.long q3), .second, .val (.int p4), .val (.int p5), .val (.int (2 : Int32)), .val (.int stt), .val (.ref b39), .unset] [(.int (1 : Int32)), (.ref b39)]))
      refine Good.back (fun _ k => XS.lloadN X42.here hx rfl (hb hby at_56) rfl k) ?_
      show Good p e below _ (T42.setTop (mkF m 57 #[.val (.long q0), .second, .val (.long q1), .second, .val (.long q2), .second, .val (.long q3), .second, .val (.int p4), .val (.int p5), .val (.int (2 : Int32)), .val (.int stt), .val (.ref b39), .unset] [(.long q1), (.int (1 : Int32)), (.ref b39)]))
      have fc45 := f_43
      obtain ⟨cl45, Ar45, qk45, S45, N45', H45, G45⟩ := fc45
      have hin45 : ¬ ((1 : Int32) < 0 ∨ cl45.slots.size ≤ ((1 : Int32)).toNatClampNeg) := inb_of S45 ⟨by decide, by decide⟩
      obtain ⟨T45, h45, X45, e45, W45, st45⟩ := stJ X42 hx hZ e42 Ar45 (j := (1 : Int32)) hin45 (g := (mkF m 57 #[.val (.long q0), .second, .val (.long q1), .second, .val (.long q2), .second, .val (.long q3), .second, .val (.int p4), .val (.int p5), .val (.int (2 : Int32)), .val (.int stt), .val (.ref b39), .unset] [(.long q1), (.int (1 : Int32)), (.ref b39)])) rfl rfl (hb hby at_57)
      refine Good.back st45 ?_
      have f_46 : Arv Z h45 b39 k39 .long (2 : Int32) [(.long q0), (.long q1)] (.long (0 : Int64)) := Arv.set Ar45 qk45 S45 N45' H45 G45 rfl W45 1 rfl (Nat.le_of_ble_eq_true rfl)
      have N45 := Fr.snoc X45 N42 g_b39
      have Z47 : n0 ≤ h45.size := Nat.le_trans Z44 (Keep.of_wr W45).1
      show Good p e below _ (T45.setTop (mkF m 58 #[.val (.long q0), .second, .val (.long q1), .second, .val (.long q2), .second, .val (.long q3), .second, .val (.int p4), .val (.int p5), .val (.int (2 : Int32)), .val (.int stt), .val (.ref b39), .unset] []))
      refine Good.back (fun _ k => XS.iload X45.here hx rfl (hb hby at_58) rfl k) ?_
      show Good p e below _ (T45.setTop (mkF m 60 #[.val (.long q0), .second, .val (.long q1), .second, .val (.long q2), .second, .val (.long q3), .second, .val (.int p4), .val (.int p5), .val (.int (2 : Int32)), .val (.int stt), .val (.ref b39), .unset] [(.int (2 : Int32))]))
      refine Good.back (fun _ k => XS.iconst X45.here hx rfl (hb hby at_60) k) ?_
      show Good p e below _ (T45.setTop (mkF m 61 #[.val (.long q0), .second, .val (.long q1), .second, .val (.long q2), .second, .val (.long q3), .second, .val (.int p4), .val (.int p5), .val (.int (2 : Int32)), .val (.int stt), .val (.ref b39), .unset] [(.int (2 : Int32)), (.int (2 : Int32))]))
      refine Good.back (fun _ k => XS.icmpYes X45.here hx rfl (pc0 := 61) (pc' := 70) rfl (hb hby at_61) rfl (flt (by decide : ¬ ((2 : Int32) < (2 : Int32)))).2.2.2 (by decide) (by decide) k) ?_
      show Good p e below _ (T45.setTop (mkF m 70 #[.val (.long q0), .second, .val (.long q1), .second, .val (.long q2), .second, .val (.long q3), .second, .val (.int p4), .val (.int p5), .val (.int (2 : Int32)), .val (.int stt), .val (.ref b39), .unset] []))
      refine Good.back (fun _ k => XS.aload X45.here hx rfl (hb hby at_70) rfl rfl k) ?_
      show Good p e below _ (T45.setTop (mkF m 72 #[.val (.long q0), .second, .val (.long q1), .second, .val (.long q2), .second, .val (.long q3), .second, .val (.int p4), .val (.int p5), .val (.int (2 : Int32)), .val (.int stt), .val (.ref b39), .unset] [(.ref b39)]))
      refine Good.back (fun _ k => XS.lload X45.here hx rfl (hb hby at_72) rfl k) ?_
      show Good p e below _ (T45.setTop (mkF m 74 #[.val (.long q0), .second, .val (.long q1), .second, .val (.long q2), .second, .val (.long q3), .second, .val (.int p4), .val (.int p5), .val (.int (2 : Int32)), .val (.int stt), .val (.ref b39), .unset] [(.long q3), (.ref b39)]))
      refine Good.back (fun _ k => XS.iload X45.here hx rfl (hb hby at_74) rfl k) ?_
      show Good p e below _ (T45.setTop (mkF m 76 #[.val (.long q0), .second, .val (.long q1), .second, .val (.long q2), .second, .val (.long q3), .second, .val (.int p4), .val (.int p5), .val (.int (2 : Int32)), .val (.int stt), .val (.ref b39), .unset] [(.int stt), (.long q3), (.ref b39)]))
      obtain ⟨_, _, ⟨T48, L48, k48, n48⟩, -, X48, ⟨Lc48, hQ48, l48, y48, z48⟩, st48⟩ := Jvm.LawKit.callS X45 hx (y := (⟨"com/example/fradno/fradno/core/CellSet", "or", "([JJI)V"⟩ : MethodName)) hown (mvT hZ (hw _ (List.mem_of_getElem? (i := 2) rfl))) (mvT hZ (hw _ (List.mem_of_getElem? (i := 3) rfl))) (mvT hZ (hw _ (List.mem_of_getElem? (i := 4) rfl))) (mvT hZ (hw _ (List.mem_of_getElem? (i := 5) rfl))) (by decide) (backOf (W := 0) (rm1_2 l Z a0 hw [] b39 q3 stt k39 q0 q1 h45 n0 Z47 f_46 g_b39 (hst)) hZ (hw _ (List.mem_of_getElem? (i := 5) rfl)) (hw _ (List.mem_of_getElem? (i := 4) rfl)) (by decide) (by decide)) (g := (mkF m 76 #[.val (.long q0), .second, .val (.long q1), .second, .val (.long q2), .second, .val (.long q3), .second, .val (.int p4), .val (.int p5), .val (.int (2 : Int32)), .val (.int stt), .val (.ref b39), .unset] [(.int stt), (.long q3), (.ref b39)])) rfl (by rw [hml]; rfl) (argsL := [(.ref b39), (.long q3), (.int stt)]) (rest := []) (lenOf own_pd62 rfl) rfl (by show 2 * 0 + _ ≤ _; exact Nat.le_of_eq rfl) (hb hby at_76) (fun _ _ => ⟨rfl, e45, (by decide : 1 + 0 ≤ _), (by decide : 2 + 0 ≤ _)⟩)
      dsimp only [Pt.U, Pt.locs, Pt.cells, Pt.slots] at X48 l48 y48 z48 st48 hQ48
      subst l48 y48 z48
      obtain ⟨rfl, N48q, Kq48, o48_0⟩ := hQ48
      have N48 := Fr.app N45 N48q
      have Z49 : n0 ≤ T48.heap.size := Nat.le_trans Z47 Kq48.1
      refine Good.back st48 ?_
      show Good p e below _ (T48.setTop (mkF m 79 #[.val (.long q0), .second, .val (.long q1), .second, .val (.long q2), .second, .val (.long q3), .second, .val (.int p4), .val (.int p5), .val (.int (2 : Int32)), .val (.int stt), .val (.ref b39), .unset] []))
      refine Good.back (fun _ k => XS.iconst X48.here hx rfl (hb hby at_79) k) ?_
      show Good p e below _ (T48.setTop (mkF m 80 #[.val (.long q0), .second, .val (.long q1), .second, .val (.long q2), .second, .val (.long q3), .second, .val (.int p4), .val (.int p5), .val (.int (2 : Int32)), .val (.int stt), .val (.ref b39), .unset] [(.int (1 : Int32))]))
      refine Good.back (fun _ k => XS.istore X48.here hx rfl (hb hby at_80) rfl (l' := #[.val (.long q0), .second, .val (.long q1), .second, .val (.long q2), .second, .val (.long q3), .second, .val (.int p4), .val (.int p5), .val (.int (2 : Int32)), .val (.int stt), .val (.ref b39), .val (.int (1 : Int32))]) rfl k) ?_
      show Good p e below _ (T48.setTop (mkF m 82 #[.val (.long q0), .second, .val (.long q1), .second, .val (.long q2), .second, .val (.long q3), .second, .val (.int p4), .val (.int p5), .val (.int (2 : Int32)), .val (.int stt), .val (.ref b39), .val (.int (1 : Int32))] []))
      refine Good.back (fun _ k => XS.iload X48.here hx rfl (hb hby at_82) rfl k) ?_
      show Good p e below _ (T48.setTop (mkF m 84 #[.val (.long q0), .second, .val (.long q1), .second, .val (.long q2), .second, .val (.long q3), .second, .val (.int p4), .val (.int p5), .val (.int (2 : Int32)), .val (.int stt), .val (.ref b39), .val (.int (1 : Int32))] [(.int (2 : Int32))]))
      refine Good.back (fun _ k => XS.ifNo X48.here hx rfl (hb hby at_84) rfl ((if0 _ _).trans (tlt (by decide : ((0 : Int32) < (2 : Int32)))).2.2.2) k) ?_
      show Good p e below _ (T48.setTop (mkF m 87 #[.val (.long q0), .second, .val (.long q1), .second, .val (.long q2), .second, .val (.long q3), .second, .val (.int p4), .val (.int p5), .val (.int (2 : Int32)), .val (.int stt), .val (.ref b39), .val (.int (1 : Int32))] []))
      refine Good.back (fun _ k => XS.iload X48.here hx rfl (hb hby at_87) rfl k) ?_
      show Good p e below _ (T48.setTop (mkF m 89 #[.val (.long q0), .second, .val (.long q1), .second, .val (.long q2), .second, .val (.long q3), .second, .val (.int p4), .val (.int p5), .val (.int (2 : Int32)), .val (.int stt), .val (.ref b39), .val (.int (1 : Int32))] [(.int (1 : Int32))]))
      refine Good.back (fun _ k => XS.ifNo X48.here hx rfl (hb hby at_89) rfl ((if0 _ _).trans (feq (by decide : ¬ ((1 : Int32) = (0 : Int32)))).1) k) ?_
      show Good p e below _ (T48.setTop (mkF m 92 #[.val (.long q0), .second, .val (.long q1), .second, .val (.long q2), .second, .val (.long q3), .second, .val (.int p4), .val (.int p5), .val (.int (2 : Int32)), .val (.int stt), .val (.ref b39), .val (.int (1 : Int32))] []))
      refine Good.back (fun _ k => XS.aload X48.here hx rfl (hb hby at_92) rfl rfl k) ?_
      show Good p e below _ (T48.setTop (mkF m 94 #[.val (.long q0), .second, .val (.long q1), .second, .val (.long q2), .second, .val (.long q3), .second, .val (.int p4), .val (.int p5), .val (.int (2 : Int32)), .val (.int stt), .val (.ref b39), .val (.int (1 : Int32))] [(.ref b39)]))
      refine Good.back (fun _ k => XS.iconst X48.here hx rfl (hb hby at_94) k) ?_
      show Good p e below _ (T48.setTop (mkF m 95 #[.val (.long q0), .second, .val (.long q1), .second, .val (.long q2), .second, .val (.long q3), .second, .val (.int p4), .val (.int p5), .val (.int (2 : Int32)), .val (.int stt), .val (.ref b39), .val (.int (1 : Int32))] [(.int (0 : Int32)), (.ref b39)]))
      have fc50 := o48_0
      obtain ⟨cl50, Ar50, qk50, S50, N50', H50, G50⟩ := fc50
      have hin50 : ¬ ((0 : Int32) < 0 ∨ cl50.slots.size ≤ ((0 : Int32)).toNatClampNeg) := inb_of S50 ⟨by decide, by decide⟩
      have hat50 : cl50.slots[((0 : Int32)).toNatClampNeg]? = some (.long (own_upd 0 q0 q3 stt)) := Has.at H50 hin50 rfl
      refine Good.back (X48.laload hx (j := (0 : Int32)) (v := (.long (own_upd 0 q0 q3 stt))) (Ar50.1) (State.isArrayOf_alike hZ.alike Ar50.2.1) Ar50.2.2 hin50 hat50 (g := (mkF m 95 #[.val (.long q0), .second, .val (.long q1), .second, .val (.long q2), .second, .val (.long q3), .second, .val (.int p4), .val (.int p5), .val (.int (2 : Int32)), .val (.int stt), .val (.ref b39), .val (.int (1 : Int32))] [(.int (0 : Int32)), (.ref b39)])) rfl rfl (hb hby at_95)) ?_
      show Good p e below _ (T48.setTop (mkF m 96 #[.val (.long q0), .second, .val (.long q1), .second, .val (.long q2), .second, .val (.long q3), .second, .val (.int p4), .val (.int p5), .val (.int (2 : Int32)), .val (.int stt), .val (.ref b39), .val (.int (1 : Int32))] [(.long (own_upd 0 q0 q3 stt))]))
      refine Good.back (fun _ k => XS.lloadN X48.here hx rfl (hb hby at_96) rfl k) ?_
      show Good p e below _ (T48.setTop (mkF m 97 #[.val (.long q0), .second, .val (.long q1), .second, .val (.long q2), .second, .val (.long q3), .second, .val (.int p4), .val (.int p5), .val (.int (2 : Int32)), .val (.int stt), .val (.ref b39), .val (.int (1 : Int32))] [(.long q0), (.long (own_upd 0 q0 q3 stt))]))
      refine Good.back (fun _ k => XS.lload X48.here hx rfl (hb hby at_97) rfl k) ?_
      show Good p e below _ (T48.setTop (mkF m 99 #[.val (.long q0), .second, .val (.long q1), .second, .val (.long q2), .second, .val (.long q3), .second, .val (.int p4), .val (.int p5), .val (.int (2 : Int32)), .val (.int stt), .val (.ref b39), .val (.int (1 : Int32))] [(.long q3), (.long q0), (.long (own_upd 0 q0 q3 stt))]))
      refine Good.back (fun _ k => XS.iload X48.here hx rfl (hb hby at_99) rfl k) ?_
      show Good p e below _ (T48.setTop (mkF m 101 #[.val (.long q0), .second, .val (.long q1), .second, .val (.long q2), .second, .val (.long q3), .second, .val (.int p4), .val (.int p5), .val (.int (2 : Int32)), .val (.int stt), .val (.ref b39), .val (.int (1 : Int32))] [(.int stt), (.long q3), (.long q0), (.long (own_upd 0 q0 q3 stt))]))
      obtain ⟨_, _, ⟨T51, L51, k51, n51⟩, -, X51, ⟨Lc51, hQ51, l51, y51, z51⟩, st51⟩ := Jvm.LawKit.callS X48 hx (y := (⟨"com/example/fradno/fradno/core/CellSetOrPinLaw", "moved", "(JI)J"⟩ : MethodName)) hown (mvT hZ (hw _ (List.mem_of_getElem? (i := 6) rfl))) (mvT hZ (hw _ (List.mem_of_getElem? (i := 7) rfl))) (mvT hZ (hw _ (List.mem_of_getElem? (i := 8) rfl))) (mvT hZ (hw _ (List.mem_of_getElem? (i := 9) rfl))) (by decide) (backOf (W := 4) (rm2 l Z a0 hw [] q3 stt  T48.heap n0 Z49 ) hZ (hw _ (List.mem_of_getElem? (i := 9) rfl)) (hw _ (List.mem_of_getElem? (i := 8) rfl)) (by decide) (by decide)) (g := (mkF m 101 #[.val (.long q0), .second, .val (.long q1), .second, .val (.long q2), .second, .val (.long q3), .second, .val (.int p4), .val (.int p5), .val (.int (2 : Int32)), .val (.int stt), .val (.ref b39), .val (.int (1 : Int32))] [(.int stt), (.long q3), (.long q0), (.long (own_upd 0 q0 q3 stt))])) rfl (by rw [hml]; rfl) (argsL := [(.long q3), (.int stt)]) (rest := [(.long q0), (.long (own_upd 0 q0 q3 stt))]) (lenOf own_pd63 rfl) rfl (by show 2 * 0 + _ ≤ _; exact Nat.le_of_eq rfl) (hb hby at_101) (fun _ _ => ⟨rfl, rfl, (by decide : 1 + 0 ≤ _), (by decide : 2 + 0 ≤ _)⟩)
      dsimp only [Pt.U, Pt.locs, Pt.cells, Pt.slots] at X51 l51 y51 z51 st51 hQ51
      subst l51 y51 z51
      obtain ⟨rfl, N51q, eh51⟩ := hQ51
      have N51 := Fr.app N48 N51q
      refine Good.back st51 ?_
      show Good p e below _ (T51.setTop (mkF m 104 #[.val (.long q0), .second, .val (.long q1), .second, .val (.long q2), .second, .val (.long q3), .second, .val (.int p4), .val (.int p5), .val (.int (2 : Int32)), .val (.int stt), .val (.ref b39), .val (.int (1 : Int32))] [(.long (own_moved q3 stt)), (.long q0), (.long (own_upd 0 q0 q3 stt))]))
      refine Good.back (fun _ k => XS.lor X51.here hx rfl (hb hby at_104) rfl k) ?_
      show Good p e below _ (T51.setTop (mkF m 105 #[.val (.long q0), .second, .val (.long q1), .second, .val (.long q2), .second, .val (.long q3), .second, .val (.int p4), .val (.int p5), .val (.int (2 : Int32)), .val (.int stt), .val (.ref b39), .val (.int (1 : Int32))] [(.long (q0 ||| (own_moved q3 stt))), (.long (own_upd 0 q0 q3 stt))]))
      refine Good.back (fun _ k => XS.lcmp X51.here hx rfl (hb hby at_105) rfl k) ?_
      show Good p e below _ (T51.setTop (mkF m 106 #[.val (.long q0), .second, .val (.long q1), .second, .val (.long q2), .second, .val (.long q3), .second, .val (.int p4), .val (.int p5), .val (.int (2 : Int32)), .val (.int stt), .val (.ref b39), .val (.int (1 : Int32))] [(.int (lcmpW (own_upd 0 q0 q3 stt) (q0 ||| (own_moved q3 stt))))]))
      refine Good.back (fun _ k => XS.ifNo X51.here hx rfl (hb hby at_106) rfl ((if0 _ _).trans (teq ((lw_eq _ _).mpr (own_law 0 stt _ _ _ hst (by omega) (by decide)) : (lcmpW (own_upd 0 q0 q3 stt) (q0 ||| (own_moved q3 stt))) = (0 : Int32))).2) k) ?_
      show Good p e below _ (T51.setTop (mkF m 109 #[.val (.long q0), .second, .val (.long q1), .second, .val (.long q2), .second, .val (.long q3), .second, .val (.int p4), .val (.int p5), .val (.int (2 : Int32)), .val (.int stt), .val (.ref b39), .val (.int (1 : Int32))] []))
      refine Good.back (fun _ k => XS.iconst X51.here hx rfl (hb hby at_109) k) ?_
      show Good p e below _ (T51.setTop (mkF m 110 #[.val (.long q0), .second, .val (.long q1), .second, .val (.long q2), .second, .val (.long q3), .second, .val (.int p4), .val (.int p5), .val (.int (2 : Int32)), .val (.int stt), .val (.ref b39), .val (.int (1 : Int32))] [(.int (1 : Int32))]))
      refine Good.back (fun _ k => XS.goto X51.here hx rfl (pc0 := 110) (pc' := 114) rfl (hb hby at_110) (by decide) (by decide) k) ?_
      show Good p e below _ (T51.setTop (mkF m 114 #[.val (.long q0), .second, .val (.long q1), .second, .val (.long q2), .second, .val (.long q3), .second, .val (.int p4), .val (.int p5), .val (.int (2 : Int32)), .val (.int stt), .val (.ref b39), .val (.int (1 : Int32))] [(.int (1 : Int32))]))
      refine Good.back (fun _ k => XS.istore X51.here hx rfl (hb hby at_114) rfl (l' := #[.val (.long q0), .second, .val (.long q1), .second, .val (.long q2), .second, .val (.long q3), .second, .val (.int p4), .val (.int p5), .val (.int (2 : Int32)), .val (.int stt), .val (.ref b39), .val (.int (1 : Int32))]) rfl k) ?_
      show Good p e below _ (T51.setTop (mkF m 116 #[.val (.long q0), .second, .val (.long q1), .second, .val (.long q2), .second, .val (.long q3), .second, .val (.int p4), .val (.int p5), .val (.int (2 : Int32)), .val (.int stt), .val (.ref b39), .val (.int (1 : Int32))] []))
      refine Good.back (fun _ k => XS.iload X51.here hx rfl (hb hby at_116) rfl k) ?_
      show Good p e below _ (T51.setTop (mkF m 118 #[.val (.long q0), .second, .val (.long q1), .second, .val (.long q2), .second, .val (.long q3), .second, .val (.int p4), .val (.int p5), .val (.int (2 : Int32)), .val (.int stt), .val (.ref b39), .val (.int (1 : Int32))] [(.int (2 : Int32))]))
      refine Good.back (fun _ k => XS.iconst X51.here hx rfl (hb hby at_118) k) ?_
      show Good p e below _ (T51.setTop (mkF m 119 #[.val (.long q0), .second, .val (.long q1), .second, .val (.long q2), .second, .val (.long q3), .second, .val (.int p4), .val (.int p5), .val (.int (2 : Int32)), .val (.int stt), .val (.ref b39), .val (.int (1 : Int32))] [(.int (1 : Int32)), (.int (2 : Int32))]))
      refine Good.back (fun _ k => XS.icmpNo X51.here hx rfl (hb hby at_119) rfl (tlt (by decide : ((1 : Int32) < (2 : Int32)))).2.2.2 k) ?_
      show Good p e below _ (T51.setTop (mkF m 122 #[.val (.long q0), .second, .val (.long q1), .second, .val (.long q2), .second, .val (.long q3), .second, .val (.int p4), .val (.int p5), .val (.int (2 : Int32)), .val (.int stt), .val (.ref b39), .val (.int (1 : Int32))] []))
      refine Good.back (fun _ k => XS.iload X51.here hx rfl (hb hby at_122) rfl k) ?_
      show Good p e below _ (T51.setTop (mkF m 124 #[.val (.long q0), .second, .val (.long q1), .second, .val (.long q2), .second, .val (.long q3), .second, .val (.int p4), .val (.int p5), .val (.int (2 : Int32)), .val (.int stt), .val (.ref b39), .val (.int (1 : Int32))] [(.int (1 : Int32))]))
      refine Good.back (fun _ k => XS.ifNo X51.here hx rfl (hb hby at_124) rfl ((if0 _ _).trans (feq (by decide : ¬ ((1 : Int32) = (0 : Int32)))).1) k) ?_
      show Good p e below _ (T51.setTop (mkF m 127 #[.val (.long q0), .second, .val (.long q1), .second, .val (.long q2), .second, .val (.long q3), .second, .val (.int p4), .val (.int p5), .val (.int (2 : Int32)), .val (.int stt), .val (.ref b39), .val (.int (1 : Int32))] []))
      refine Good.back (fun _ k => XS.aload X51.here hx rfl (hb hby at_127) rfl rfl k) ?_
      show Good p e below _ (T51.setTop (mkF m 129 #[.val (.long q0), .second, .val (.long q1), .second, .val (.long q2), .second, .val (.long q3), .second, .val (.int p4), .val (.int p5), .val (.int (2 : Int32)), .val (.int stt), .val (.ref b39), .val (.int (1 : Int32))] [(.ref b39)]))
      refine Good.back (fun _ k => XS.iconst X51.here hx rfl (hb hby at_129) k) ?_
      show Good p e below _ (T51.setTop (mkF m 130 #[.val (.long q0), .second, .val (.long q1), .second, .val (.long q2), .second, .val (.long q3), .second, .val (.int p4), .val (.int p5), .val (.int (2 : Int32)), .val (.int stt), .val (.ref b39), .val (.int (1 : Int32))] [(.int (1 : Int32)), (.ref b39)]))
      have fc52 := o48_0
      obtain ⟨cl52, Ar52, qk52, S52, N52', H52, G52⟩ := fc52
      have hin52 : ¬ ((1 : Int32) < 0 ∨ cl52.slots.size ≤ ((1 : Int32)).toNatClampNeg) := inb_of S52 ⟨by decide, by decide⟩
      have hat52 : cl52.slots[((1 : Int32)).toNatClampNeg]? = some (.long (own_upd 1 q1 q3 stt)) := Has.at H52 hin52 rfl
      refine Good.back (X51.laload hx (j := (1 : Int32)) (v := (.long (own_upd 1 q1 q3 stt))) (by rw [eh51]; exact Ar52.1) (State.isArrayOf_alike hZ.alike Ar52.2.1) Ar52.2.2 hin52 hat52 (g := (mkF m 130 #[.val (.long q0), .second, .val (.long q1), .second, .val (.long q2), .second, .val (.long q3), .second, .val (.int p4), .val (.int p5), .val (.int (2 : Int32)), .val (.int stt), .val (.ref b39), .val (.int (1 : Int32))] [(.int (1 : Int32)), (.ref b39)])) rfl rfl (hb hby at_130)) ?_
      show Good p e below _ (T51.setTop (mkF m 131 #[.val (.long q0), .second, .val (.long q1), .second, .val (.long q2), .second, .val (.long q3), .second, .val (.int p4), .val (.int p5), .val (.int (2 : Int32)), .val (.int stt), .val (.ref b39), .val (.int (1 : Int32))] [(.long (own_upd 1 q1 q3 stt))]))
      refine Good.back (fun _ k => XS.lloadN X51.here hx rfl (hb hby at_131) rfl k) ?_
      show Good p e below _ (T51.setTop (mkF m 132 #[.val (.long q0), .second, .val (.long q1), .second, .val (.long q2), .second, .val (.long q3), .second, .val (.int p4), .val (.int p5), .val (.int (2 : Int32)), .val (.int stt), .val (.ref b39), .val (.int (1 : Int32))] [(.long q1), (.long (own_upd 1 q1 q3 stt))]))
      refine Good.back (fun _ k => XS.lload X51.here hx rfl (hb hby at_132) rfl k) ?_
      show Good p e below _ (T51.setTop (mkF m 134 #[.val (.long q0), .second, .val (.long q1), .second, .val (.long q2), .second, .val (.long q3), .second, .val (.int p4), .val (.int p5), .val (.int (2 : Int32)), .val (.int stt), .val (.ref b39), .val (.int (1 : Int32))] [(.long q3), (.long q1), (.long (own_upd 1 q1 q3 stt))]))
      refine Good.back (fun _ k => XS.iload X51.here hx rfl (hb hby at_134) rfl k) ?_
      show Good p e below _ (T51.setTop (mkF m 136 #[.val (.long q0), .second, .val (.long q1), .second, .val (.long q2), .second, .val (.long q3), .second, .val (.int p4), .val (.int p5), .val (.int (2 : Int32)), .val (.int stt), .val (.ref b39), .val (.int (1 : Int32))] [(.int stt), (.long q3), (.long q1), (.long (own_upd 1 q1 q3 stt))]))
      refine Good.back (fun _ k => XS.bipush X51.here hx rfl (hb hby at_136) k) ?_
      show Good p e below _ (T51.setTop (mkF m 138 #[.val (.long q0), .second, .val (.long q1), .second, .val (.long q2), .second, .val (.long q3), .second, .val (.int p4), .val (.int p5), .val (.int (2 : Int32)), .val (.int stt), .val (.ref b39), .val (.int (1 : Int32))] [(.int (64 : Int32)), (.int stt), (.long q3), (.long q1), (.long (own_upd 1 q1 q3 stt))]))
      refine Good.back (fun _ k => XS.isub X51.here hx rfl (hb hby at_138) rfl k) ?_
      show Good p e below _ (T51.setTop (mkF m 139 #[.val (.long q0), .second, .val (.long q1), .second, .val (.long q2), .second, .val (.long q3), .second, .val (.int p4), .val (.int p5), .val (.int (2 : Int32)), .val (.int stt), .val (.ref b39), .val (.int (1 : Int32))] [(.int (stt - (64 : Int32))), (.long q3), (.long q1), (.long (own_upd 1 q1 q3 stt))]))
      obtain ⟨_, _, ⟨T53, L53, k53, n53⟩, -, X53, ⟨Lc53, hQ53, l53, y53, z53⟩, st53⟩ := Jvm.LawKit.callS X51 hx (y := (⟨"com/example/fradno/fradno/core/CellSetOrPinLaw", "moved", "(JI)J"⟩ : MethodName)) hown (mvT hZ (hw _ (List.mem_of_getElem? (i := 6) rfl))) (mvT hZ (hw _ (List.mem_of_getElem? (i := 7) rfl))) (mvT hZ (hw _ (List.mem_of_getElem? (i := 8) rfl))) (mvT hZ (hw _ (List.mem_of_getElem? (i := 9) rfl))) (by decide) (backOf (W := 4) (rm2 l Z a0 hw [] q3 (stt - (64 : Int32))  T48.heap n0 Z49 ) hZ (hw _ (List.mem_of_getElem? (i := 9) rfl)) (hw _ (List.mem_of_getElem? (i := 8) rfl)) (by decide) (by decide)) (g := (mkF m 139 #[.val (.long q0), .second, .val (.long q1), .second, .val (.long q2), .second, .val (.long q3), .second, .val (.int p4), .val (.int p5), .val (.int (2 : Int32)), .val (.int stt), .val (.ref b39), .val (.int (1 : Int32))] [(.int (stt - (64 : Int32))), (.long q3), (.long q1), (.long (own_upd 1 q1 q3 stt))])) rfl (by rw [hml]; rfl) (argsL := [(.long q3), (.int (stt - (64 : Int32)))]) (rest := [(.long q1), (.long (own_upd 1 q1 q3 stt))]) (lenOf own_pd63 rfl) rfl (by show 2 * 0 + _ ≤ _; exact Nat.le_of_eq rfl) (hb hby at_139) (fun _ _ => ⟨rfl, eh51, (by decide : 1 + 0 ≤ _), (by decide : 2 + 0 ≤ _)⟩)
      dsimp only [Pt.U, Pt.locs, Pt.cells, Pt.slots] at X53 l53 y53 z53 st53 hQ53
      subst l53 y53 z53
      obtain ⟨rfl, N53q, eh53⟩ := hQ53
      have N53 := Fr.app N51 N53q
      refine Good.back st53 ?_
      show Good p e below _ (T53.setTop (mkF m 142 #[.val (.long q0), .second, .val (.long q1), .second, .val (.long q2), .second, .val (.long q3), .second, .val (.int p4), .val (.int p5), .val (.int (2 : Int32)), .val (.int stt), .val (.ref b39), .val (.int (1 : Int32))] [(.long (own_moved q3 (stt - (64 : Int32)))), (.long q1), (.long (own_upd 1 q1 q3 stt))]))
      refine Good.back (fun _ k => XS.lor X53.here hx rfl (hb hby at_142) rfl k) ?_
      show Good p e below _ (T53.setTop (mkF m 143 #[.val (.long q0), .second, .val (.long q1), .second, .val (.long q2), .second, .val (.long q3), .second, .val (.int p4), .val (.int p5), .val (.int (2 : Int32)), .val (.int stt), .val (.ref b39), .val (.int (1 : Int32))] [(.long (q1 ||| (own_moved q3 (stt - (64 : Int32))))), (.long (own_upd 1 q1 q3 stt))]))
      refine Good.back (fun _ k => XS.lcmp X53.here hx rfl (hb hby at_143) rfl k) ?_
      show Good p e below _ (T53.setTop (mkF m 144 #[.val (.long q0), .second, .val (.long q1), .second, .val (.long q2), .second, .val (.long q3), .second, .val (.int p4), .val (.int p5), .val (.int (2 : Int32)), .val (.int stt), .val (.ref b39), .val (.int (1 : Int32))] [(.int (lcmpW (own_upd 1 q1 q3 stt) (q1 ||| (own_moved q3 (stt - (64 : Int32))))))]))
      refine Good.back (fun _ k => XS.ifNo X53.here hx rfl (hb hby at_144) rfl ((if0 _ _).trans (teq ((lw_eq _ _).mpr (own_law 1 stt _ _ _ hst (own_sub stt (64 : Int32) 64 rfl hst (by decide)) (by decide)) : (lcmpW (own_upd 1 q1 q3 stt) (q1 ||| (own_moved q3 (stt - (64 : Int32))))) = (0 : Int32))).2) k) ?_
      show Good p e below _ (T53.setTop (mkF m 147 #[.val (.long q0), .second, .val (.long q1), .second, .val (.long q2), .second, .val (.long q3), .second, .val (.int p4), .val (.int p5), .val (.int (2 : Int32)), .val (.int stt), .val (.ref b39), .val (.int (1 : Int32))] []))
      refine Good.back (fun _ k => XS.iconst X53.here hx rfl (hb hby at_147) k) ?_
      show Good p e below _ (T53.setTop (mkF m 148 #[.val (.long q0), .second, .val (.long q1), .second, .val (.long q2), .second, .val (.long q3), .second, .val (.int p4), .val (.int p5), .val (.int (2 : Int32)), .val (.int stt), .val (.ref b39), .val (.int (1 : Int32))] [(.int (1 : Int32))]))
      refine Good.back (fun _ k => XS.goto X53.here hx rfl (pc0 := 148) (pc' := 152) rfl (hb hby at_148) (by decide) (by decide) k) ?_
      show Good p e below _ (T53.setTop (mkF m 152 #[.val (.long q0), .second, .val (.long q1), .second, .val (.long q2), .second, .val (.long q3), .second, .val (.int p4), .val (.int p5), .val (.int (2 : Int32)), .val (.int stt), .val (.ref b39), .val (.int (1 : Int32))] [(.int (1 : Int32))]))
      refine Good.back (fun _ k => XS.istore X53.here hx rfl (hb hby at_152) rfl (l' := #[.val (.long q0), .second, .val (.long q1), .second, .val (.long q2), .second, .val (.long q3), .second, .val (.int p4), .val (.int p5), .val (.int (2 : Int32)), .val (.int stt), .val (.ref b39), .val (.int (1 : Int32))]) rfl k) ?_
      show Good p e below _ (T53.setTop (mkF m 154 #[.val (.long q0), .second, .val (.long q1), .second, .val (.long q2), .second, .val (.long q3), .second, .val (.int p4), .val (.int p5), .val (.int (2 : Int32)), .val (.int stt), .val (.ref b39), .val (.int (1 : Int32))] []))
      refine Good.back (fun _ k => XS.iload X53.here hx rfl (hb hby at_154) rfl k) ?_
      show Good p e below _ (T53.setTop (mkF m 156 #[.val (.long q0), .second, .val (.long q1), .second, .val (.long q2), .second, .val (.long q3), .second, .val (.int p4), .val (.int p5), .val (.int (2 : Int32)), .val (.int stt), .val (.ref b39), .val (.int (1 : Int32))] [(.int (2 : Int32))]))
      refine Good.back (fun _ k => XS.iconst X53.here hx rfl (hb hby at_156) k) ?_
      show Good p e below _ (T53.setTop (mkF m 157 #[.val (.long q0), .second, .val (.long q1), .second, .val (.long q2), .second, .val (.long q3), .second, .val (.int p4), .val (.int p5), .val (.int (2 : Int32)), .val (.int stt), .val (.ref b39), .val (.int (1 : Int32))] [(.int (2 : Int32)), (.int (2 : Int32))]))
      refine Good.back (fun _ k => XS.icmpYes X53.here hx rfl (pc0 := 157) (pc' := 194) rfl (hb hby at_157) rfl (flt (by decide : ¬ ((2 : Int32) < (2 : Int32)))).2.2.2 (by decide) (by decide) k) ?_
      show Good p e below _ (T53.setTop (mkF m 194 #[.val (.long q0), .second, .val (.long q1), .second, .val (.long q2), .second, .val (.long q3), .second, .val (.int p4), .val (.int p5), .val (.int (2 : Int32)), .val (.int stt), .val (.ref b39), .val (.int (1 : Int32))] []))
      refine Good.back (fun _ k => XS.iload X53.here hx rfl (hb hby at_194) rfl k) ?_
      show Good p e below _ (T53.setTop (mkF m 196 #[.val (.long q0), .second, .val (.long q1), .second, .val (.long q2), .second, .val (.long q3), .second, .val (.int p4), .val (.int p5), .val (.int (2 : Int32)), .val (.int stt), .val (.ref b39), .val (.int (1 : Int32))] [(.int (1 : Int32))]))
      obtain ⟨fs54, hr54, hrun54, hended54, hW54, hsame54⟩ := X53.leave (v := some (.int (1 : Int32))) (fun h => by rw [Bd.returns] at h; cases h)
      refine Good.done (retN X53 hx (t := .boolean) Bd.returns (by simp) (hb hby at_196) hr54) hrun54 hended54 ⟨_, _, rfl, ?_, ⟨_, rfl⟩, hW54, hsame54.mono (by decide) (by decide)⟩
      show Q0 Z q0 q1 q2 q3 p4 p5 h0 n0 _ T53.heap _
      rw [eh53]
      exact ⟨rfl, N53⟩
    · refine Good.back (fun _ k => XS.ifNo X0.here hx rfl (hb hby at_12) rfl ((if0 _ _).trans (feq hc12_38).1) k) ?_
      show Good p e below _ (s₁.setTop (mkF m 15 #[.val (.long q0), .second, .val (.long q1), .second, .val (.long q2), .second, .val (.long q3), .second, .val (.int p4), .val (.int p5), .val (.int (2 : Int32)), .unset, .unset, .unset] []))
      refine Good.back (fun _ k => XS.iload X0.here hx rfl (hb hby at_15) rfl k) ?_
      show Good p e below _ (s₁.setTop (mkF m 17 #[.val (.long q0), .second, .val (.long q1), .second, .val (.long q2), .second, .val (.long q3), .second, .val (.int p4), .val (.int p5), .val (.int (2 : Int32)), .unset, .unset, .unset] [(.int p4)]))
      refine Good.back (fun _ k => XS.sipush X0.here hx rfl (hb hby at_17) k) ?_
      show Good p e below _ (s₁.setTop (mkF m 20 #[.val (.long q0), .second, .val (.long q1), .second, .val (.long q2), .second, .val (.long q3), .second, .val (.int p4), .val (.int p5), .val (.int (2 : Int32)), .unset, .unset, .unset] [(.int (255 : Int32)), (.int p4)]))
      refine Good.back (fun _ k => XS.iand X0.here hx rfl (hb hby at_20) rfl k) ?_
      show Good p e below _ (s₁.setTop (mkF m 21 #[.val (.long q0), .second, .val (.long q1), .second, .val (.long q2), .second, .val (.long q3), .second, .val (.int p4), .val (.int p5), .val (.int (2 : Int32)), .unset, .unset, .unset] [(.int (p4 &&& (255 : Int32)))]))
      refine Good.back (fun _ k => XS.goto X0.here hx rfl (pc0 := 21) (pc' := 29) rfl (hb hby at_21) (by decide) (by decide) k) ?_
      show Good p e below _ (s₁.setTop (mkF m 29 #[.val (.long q0), .second, .val (.long q1), .second, .val (.long q2), .second, .val (.long q3), .second, .val (.int p4), .val (.int p5), .val (.int (2 : Int32)), .unset, .unset, .unset] [(.int (p4 &&& (255 : Int32)))]))
      refine Good.back (fun _ k => XS.istore X0.here hx rfl (hb hby at_29) rfl (l' := #[.val (.long q0), .second, .val (.long q1), .second, .val (.long q2), .second, .val (.long q3), .second, .val (.int p4), .val (.int p5), .val (.int (2 : Int32)), .val (.int (p4 &&& (255 : Int32))), .unset, .unset]) rfl k) ?_
      show Good p e below _ (s₁.setTop (mkF m 31 #[.val (.long q0), .second, .val (.long q1), .second, .val (.long q2), .second, .val (.long q3), .second, .val (.int p4), .val (.int p5), .val (.int (2 : Int32)), .val (.int (p4 &&& (255 : Int32))), .unset, .unset] []))
      obtain ⟨stt, hstt⟩ : ∃ z, z = (p4 &&& (255 : Int32)) := ⟨_, rfl⟩
      rw [← hstt]
      have hst : 0 ≤ stt.toInt := by rw [hstt]; exact (c_and _ _ (by decide)).1
      show Good p e below _ (s₁.setTop (mkF m 31 #[.val (.long q0), .second, .val (.long q1), .second, .val (.long q2), .second, .val (.long q3), .second, .val (.int p4), .val (.int p5), .val (.int (2 : Int32)), .val (.int stt), .unset, .unset] []))
      refine Good.back (fun _ k => XS.iload X0.here hx rfl (hb hby at_31) rfl k) ?_
      show Good p e below _ (s₁.setTop (mkF m 33 #[.val (.long q0), .second, .val (.long q1), .second, .val (.long q2), .second, .val (.long q3), .second, .val (.int p4), .val (.int p5), .val (.int (2 : Int32)), .val (.int stt), .unset, .unset] [(.int (2 : Int32))]))
      obtain ⟨T55, h55, k55, X55, e55, E55, A55, st55⟩ := newP X0 hx hZ (hw _ (List.mem_of_getElem? (i := 1) rfl)) e0 (g := (mkF m 33 #[.val (.long q0), .second, .val (.long q1), .second, .val (.long q2), .second, .val (.long q3), .second, .val (.int p4), .val (.int p5), .val (.int (2 : Int32)), .val (.int stt), .unset, .unset] [(.int (2 : Int32))])) rfl (hb hby at_33) rfl (by decide) (cap := 2) (by decide) (by decide) (by decide) (by decide)
      obtain ⟨b55, g55⟩ : ∃ z, z = h0.size := ⟨_, rfl⟩
      rw [← g55] at A55 st55
      refine Good.back st55 ?_
      have g_b55 : n0 ≤ b55 := Nat.le_trans Z0 (Nat.le_of_eq g55.symm)
      have Z56 : n0 ≤ h55.size := Nat.le_trans Z0 E55.1
      have f_57 : Arv Z h55 b55 k55 .long (2 : Int32) [(.long (0 : Int64)), (.long (0 : Int64))] (.long (0 : Int64)) := (Arv.new A55 (by decide)).pad (pad_rep [] (.long (0 : Int64)) 2)
      show Good p e below _ (T55.setTop (mkF m 35 #[.val (.long q0), .second, .val (.long q1), .second, .val (.long q2), .second, .val (.long q3), .second, .val (.int p4), .val (.int p5), .val (.int (2 : Int32)), .val (.int stt), .unset, .unset] [(.ref b55)]))
      refine Good.back (fun _ k => XS.astore X55.here hx rfl (hb hby at_35) rfl rfl (l' := #[.val (.long q0), .second, .val (.long q1), .second, .val (.long q2), .second, .val (.long q3), .second, .val (.int p4), .val (.int p5), .val (.int (2 : Int32)), .val (.int stt), .val (.ref b55), .unset]) rfl k) ?_
      show Good p e below _ (T55.setTop (mkF m 37 #[.val (.long q0), .second, .val (.long q1), .second, .val (.long q2), .second, .val (.long q3), .second, .val (.int p4), .val (.int p5), .val (.int (2 : Int32)), .val (.int stt), .val (.ref b55), .unset] []))
      refine Good.back (fun _ k => XS.iload X55.here hx rfl (hb hby at_37) rfl k) ?_
      show Good p e below _ (T55.setTop (mkF m 39 #[.val (.long q0), .second, .val (.long q1), .second, .val (.long q2), .second, .val (.long q3), .second, .val (.int p4), .val (.int p5), .val (.int (2 : Int32)), .val (.int stt), .val (.ref b55), .unset] [(.int (2 : Int32))]))
      refine Good.back (fun _ k => XS.ifNo X55.here hx rfl (hb hby at_39) rfl ((if0 _ _).trans (tlt (by decide : ((0 : Int32) < (2 : Int32)))).2.2.2) k) ?_
      show Good p e below _ (T55.setTop (mkF m 42 #[.val (.long q0), .second, .val (.long q1), .second, .val (.long q2), .second, .val (.long q3), .second, .val (.int p4), .val (.int p5), .val (.int (2 : Int32)), .val (.int stt), .val (.ref b55), .unset] []))
      refine Good.back (fun _ k => XS.aload X55.here hx rfl (hb hby at_42) rfl rfl k) ?_
      show Good p e below _ (T55.setTop (mkF m 44 #[.val (.long q0), .second, .val (.long q1), .second, .val (.long q2), .second, .val (.long q3), .second, .val (.int p4), .val (.int p5), .val (.int (2 : Int32)), .val (.int stt), .val (.ref b55), .unset] [(.ref b55)]))
      refine Good.back (fun _ k => XS.iconst X55.here hx rfl (hb hby at_44) k) ?_
      show Good p e below _ (T55.setTop (mkF m 45 #[.val (.long q0), .second, .val (.long q1), .second, .val (.long q2), .second, .val (.long q3), .second, .val (.int p4), .val (.int p5), .val (.int (2 : Int32)), .val (.int stt), .val (.ref b55), .unset] [(.int (0 : Int32)), (.ref b55)]))
      refine Good.back (fun _ k => XS.lloadN X55.here hx rfl (hb hby at_45) rfl k) ?_
      show Good p e below _ (T55.setTop (mkF m 46 #[.val (.long q0), .second, .val (.long q1), .second, .val (.long q2), .second, .val (.long q3), .second, .val (.int p4), .val (.int p5), .val (.int (2 : Int32)), .val (.int stt), .val (.ref b55), .unset] [(.long q0), (.int (0 : Int32)), (.ref b55)]))
      have fc58 := f_57
      obtain ⟨cl58, Ar58, qk58, S58, N58', H58, G58⟩ := fc58
      have hin58 : ¬ ((0 : Int32) < 0 ∨ cl58.slots.size ≤ ((0 : Int32)).toNatClampNeg) := inb_of S58 ⟨by decide, by decide⟩
      obtain ⟨T58, h58, X58, e58, W58, st58⟩ := stJ X55 hx hZ e55 Ar58 (j := (0 : Int32)) hin58 (g := (mkF m 46 #[.val (.long q0), .second, .val (.long q1), .second, .val (.long q2), .second, .val (.long q3), .second, .val (.int p4), .val (.int p5), .val (.int (2 : Int32)), .val (.int stt), .val (.ref b55), .unset] [(.long q0), (.int (0 : Int32)), (.ref b55)])) rfl rfl (hb hby at_46)
      refine Good.back st58 ?_
      have f_59 : Arv Z h58 b55 k55 .long (2 : Int32) [(.long q0), (.long (0 : Int64))] (.long (0 : Int64)) := Arv.set Ar58 qk58 S58 N58' H58 G58 rfl W58 0 rfl (Nat.le_of_ble_eq_true rfl)
      have N58 := Fr.snoc X58 N0 g_b55
      have Z60 : n0 ≤ h58.size := Nat.le_trans Z56 (Keep.of_wr W58).1
      show Good p e below _ (T58.setTop (mkF m 47 #[.val (.long q0), .second, .val (.long q1), .second, .val (.long q2), .second, .val (.long q3), .second, .val (.int p4), .val (.int p5), .val (.int (2 : Int32)), .val (.int stt), .val (.ref b55), .unset] []))
      refine Good.back (fun _ k => XS.iload X58.here hx rfl (hb hby at_47) rfl k) ?_
      show Good p e below _ (T58.setTop (mkF m 49 #[.val (.long q0), .second, .val (.long q1), .second, .val (.long q2), .second, .val (.long q3), .second, .val (.int p4), .val (.int p5), .val (.int (2 : Int32)), .val (.int stt), .val (.ref b55), .unset] [(.int (2 : Int32))]))
      refine Good.back (fun _ k => XS.iconst X58.here hx rfl (hb hby at_49) k) ?_
      show Good p e below _ (T58.setTop (mkF m 50 #[.val (.long q0), .second, .val (.long q1), .second, .val (.long q2), .second, .val (.long q3), .second, .val (.int p4), .val (.int p5), .val (.int (2 : Int32)), .val (.int stt), .val (.ref b55), .unset] [(.int (1 : Int32)), (.int (2 : Int32))]))
      refine Good.back (fun _ k => XS.icmpNo X58.here hx rfl (hb hby at_50) rfl (tlt (by decide : ((1 : Int32) < (2 : Int32)))).2.2.2 k) ?_
      show Good p e below _ (T58.setTop (mkF m 53 #[.val (.long q0), .second, .val (.long q1), .second, .val (.long q2), .second, .val (.long q3), .second, .val (.int p4), .val (.int p5), .val (.int (2 : Int32)), .val (.int stt), .val (.ref b55), .unset] []))
      refine Good.back (fun _ k => XS.aload X58.here hx rfl (hb hby at_53) rfl rfl k) ?_
      show Good p e below _ (T58.setTop (mkF m 55 #[.val (.long q0), .second, .val (.long q1), .second, .val (.long q2), .second, .val (.long q3), .second, .val (.int p4), .val (.int p5), .val (.int (2 : Int32)), .val (.int stt), .val (.ref b55), .unset] [(.ref b55)]))
      refine Good.back (fun _ k => XS.iconst X58.here hx rfl (hb hby at_55) k) ?_
      show Good p e below _ (T58.setTop (mkF m 56 #[.val (.long q0), .second, .val (.long q1), .second, .val (.long q2), .second, .val (.long q3), .second, .val (.int p4), .val (.int p5), .val (.int (2 : Int32)), .val (.int stt), .val (.ref b55), .unset] [(.int (1 : Int32)), (.ref b55)]))
      refine Good.back (fun _ k => XS.lloadN X58.here hx rfl (hb hby at_56) rfl k) ?_
      show Good p e below _ (T58.setTop (mkF m 57 #[.val (.long q0), .second, .val (.long q1), .second, .val (.long q2), .second, .val (.long q3), .second, .val (.int p4), .val (.int p5), .val (.int (2 : Int32)), .val (.int stt), .val (.ref b55), .unset] [(.long q1), (.int (1 : Int32)), (.ref b55)]))
      have fc61 := f_59
      obtain ⟨cl61, Ar61, qk61, S61, N61', H61, G61⟩ := fc61
      have hin61 : ¬ ((1 : Int32) < 0 ∨ cl61.slots.size ≤ ((1 : Int32)).toNatClampNeg) := inb_of S61 ⟨by decide, by decide⟩
      obtain ⟨T61, h61, X61, e61, W61, st61⟩ := stJ X58 hx hZ e58 Ar61 (j := (1 : Int32)) hin61 (g := (mkF m 57 #[.val (.long q0), .second, .val (.long q1), .second, .val (.long q2), .second, .val (.long q3), .second, .val (.int p4), .val (.int p5), .val (.int (2 : Int32)), .val (.int stt), .val (.ref b55), .unset] [(.long q1), (.int (1 : Int32)), (.ref b55)])) rfl rfl (hb hby at_57)
      refine Good.back st61 ?_
      have f_62 : Arv Z h61 b55 k55 .long (2 : Int32) [(.long q0), (.long q1)] (.long (0 : Int64)) := Arv.set Ar61 qk61 S61 N61' H61 G61 rfl W61 1 rfl (Nat.le_of_ble_eq_true rfl)
      have N61 := Fr.snoc X61 N58 g_b55
      have Z63 : n0 ≤ h61.size := Nat.le_trans Z60 (Keep.of_wr W61).1
      show Good p e below _ (T61.setTop (mkF m 58 #[.val (.long q0), .second, .val (.long q1), .second, .val (.long q2), .second, .val (.long q3), .second, .val (.int p4), .val (.int p5), .val (.int (2 : Int32)), .val (.int stt), .val (.ref b55), .unset] []))
      refine Good.back (fun _ k => XS.iload X61.here hx rfl (hb hby at_58) rfl k) ?_
      show Good p e below _ (T61.setTop (mkF m 60 #[.val (.long q0), .second, .val (.long q1), .second, .val (.long q2), .second, .val (.long q3), .second, .val (.int p4), .val (.int p5), .val (.int (2 : Int32)), .val (.int stt), .val (.ref b55), .unset] [(.int (2 : Int32))]))
      refine Good.back (fun _ k => XS.iconst X61.here hx rfl (hb hby at_60) k) ?_
      show Good p e below _ (T61.setTop (mkF m 61 #[.val (.long q0), .second, .val (.long q1), .second, .val (.long q2), .second, .val (.long q3), .second, .val (.int p4), .val (.int p5), .val (.int (2 : Int32)), .val (.int stt), .val (.ref b55), .unset] [(.int (2 : Int32)), (.int (2 : Int32))]))
      refine Good.back (fun _ k => XS.icmpYes X61.here hx rfl (pc0 := 61) (pc' := 70) rfl (hb hby at_61) rfl (flt (by decide : ¬ ((2 : Int32) < (2 : Int32)))).2.2.2 (by decide) (by decide) k) ?_
      show Good p e below _ (T61.setTop (mkF m 70 #[.val (.long q0), .second, .val (.long q1), .second, .val (.long q2), .second, .val (.long q3), .second, .val (.int p4), .val (.int p5), .val (.int (2 : Int32)), .val (.int stt), .val (.ref b55), .unset] []))
      refine Good.back (fun _ k => XS.aload X61.here hx rfl (hb hby at_70) rfl rfl k) ?_
      show Good p e below _ (T61.setTop (mkF m 72 #[.val (.long q0), .second, .val (.long q1), .second, .val (.long q2), .second, .val (.long q3), .second, .val (.int p4), .val (.int p5), .val (.int (2 : Int32)), .val (.int stt), .val (.ref b55), .unset] [(.ref b55)]))
      refine Good.back (fun _ k => XS.lload X61.here hx rfl (hb hby at_72) rfl k) ?_
      show Good p e below _ (T61.setTop (mkF m 74 #[.val (.long q0), .second, .val (.long q1), .second, .val (.long q2), .second, .val (.long q3), .second, .val (.int p4), .val (.int p5), .val (.int (2 : Int32)), .val (.int stt), .val (.ref b55), .unset] [(.long q3), (.ref b55)]))
      refine Good.back (fun _ k => XS.iload X61.here hx rfl (hb hby at_74) rfl k) ?_
      show Good p e below _ (T61.setTop (mkF m 76 #[.val (.long q0), .second, .val (.long q1), .second, .val (.long q2), .second, .val (.long q3), .second, .val (.int p4), .val (.int p5), .val (.int (2 : Int32)), .val (.int stt), .val (.ref b55), .unset] [(.int stt), (.long q3), (.ref b55)]))
      obtain ⟨_, _, ⟨T64, L64, k64, n64⟩, -, X64, ⟨Lc64, hQ64, l64, y64, z64⟩, st64⟩ := Jvm.LawKit.callS X61 hx (y := (⟨"com/example/fradno/fradno/core/CellSet", "or", "([JJI)V"⟩ : MethodName)) hown (mvT hZ (hw _ (List.mem_of_getElem? (i := 2) rfl))) (mvT hZ (hw _ (List.mem_of_getElem? (i := 3) rfl))) (mvT hZ (hw _ (List.mem_of_getElem? (i := 4) rfl))) (mvT hZ (hw _ (List.mem_of_getElem? (i := 5) rfl))) (by decide) (backOf (W := 0) (rm1_2 l Z a0 hw [] b55 q3 stt k55 q0 q1 h61 n0 Z63 f_62 g_b55 (hst)) hZ (hw _ (List.mem_of_getElem? (i := 5) rfl)) (hw _ (List.mem_of_getElem? (i := 4) rfl)) (by decide) (by decide)) (g := (mkF m 76 #[.val (.long q0), .second, .val (.long q1), .second, .val (.long q2), .second, .val (.long q3), .second, .val (.int p4), .val (.int p5), .val (.int (2 : Int32)), .val (.int stt), .val (.ref b55), .unset] [(.int stt), (.long q3), (.ref b55)])) rfl (by rw [hml]; rfl) (argsL := [(.ref b55), (.long q3), (.int stt)]) (rest := []) (lenOf own_pd62 rfl) rfl (by show 2 * 0 + _ ≤ _; exact Nat.le_of_eq rfl) (hb hby at_76) (fun _ _ => ⟨rfl, e61, (by decide : 1 + 0 ≤ _), (by decide : 2 + 0 ≤ _)⟩)
      dsimp only [Pt.U, Pt.locs, Pt.cells, Pt.slots] at X64 l64 y64 z64 st64 hQ64
      subst l64 y64 z64
      obtain ⟨rfl, N64q, Kq64, o64_0⟩ := hQ64
      have N64 := Fr.app N61 N64q
      have Z65 : n0 ≤ T64.heap.size := Nat.le_trans Z63 Kq64.1
      refine Good.back st64 ?_
      show Good p e below _ (T64.setTop (mkF m 79 #[.val (.long q0), .second, .val (.long q1), .second, .val (.long q2), .second, .val (.long q3), .second, .val (.int p4), .val (.int p5), .val (.int (2 : Int32)), .val (.int stt), .val (.ref b55), .unset] []))
      refine Good.back (fun _ k => XS.iconst X64.here hx rfl (hb hby at_79) k) ?_
      show Good p e below _ (T64.setTop (mkF m 80 #[.val (.long q0), .second, .val (.long q1), .second, .val (.long q2), .second, .val (.long q3), .second, .val (.int p4), .val (.int p5), .val (.int (2 : Int32)), .val (.int stt), .val (.ref b55), .unset] [(.int (1 : Int32))]))
      refine Good.back (fun _ k => XS.istore X64.here hx rfl (hb hby at_80) rfl (l' := #[.val (.long q0), .second, .val (.long q1), .second, .val (.long q2), .second, .val (.long q3), .second, .val (.int p4), .val (.int p5), .val (.int (2 : Int32)), .val (.int stt), .val (.ref b55), .val (.int (1 : Int32))]) rfl k) ?_
      show Good p e below _ (T64.setTop (mkF m 82 #[.val (.long q0), .second, .val (.long q1), .second, .val (.long q2), .second, .val (.long q3), .second, .val (.int p4), .val (.int p5), .val (.int (2 : Int32)), .val (.int stt), .val (.ref b55), .val (.int (1 : Int32))] []))
      refine Good.back (fun _ k => XS.iload X64.here hx rfl (hb hby at_82) rfl k) ?_
      show Good p e below _ (T64.setTop (mkF m 84 #[.val (.long q0), .second, .val (.long q1), .second, .val (.long q2), .second, .val (.long q3), .second, .val (.int p4), .val (.int p5), .val (.int (2 : Int32)), .val (.int stt), .val (.ref b55), .val (.int (1 : Int32))] [(.int (2 : Int32))]))
      refine Good.back (fun _ k => XS.ifNo X64.here hx rfl (hb hby at_84) rfl ((if0 _ _).trans (tlt (by decide : ((0 : Int32) < (2 : Int32)))).2.2.2) k) ?_
      show Good p e below _ (T64.setTop (mkF m 87 #[.val (.long q0), .second, .val (.long q1), .second, .val (.long q2), .second, .val (.long q3), .second, .val (.int p4), .val (.int p5), .val (.int (2 : Int32)), .val (.int stt), .val (.ref b55), .val (.int (1 : Int32))] []))
      refine Good.back (fun _ k => XS.iload X64.here hx rfl (hb hby at_87) rfl k) ?_
      show Good p e below _ (T64.setTop (mkF m 89 #[.val (.long q0), .second, .val (.long q1), .second, .val (.long q2), .second, .val (.long q3), .second, .val (.int p4), .val (.int p5), .val (.int (2 : Int32)), .val (.int stt), .val (.ref b55), .val (.int (1 : Int32))] [(.int (1 : Int32))]))
      refine Good.back (fun _ k => XS.ifNo X64.here hx rfl (hb hby at_89) rfl ((if0 _ _).trans (feq (by decide : ¬ ((1 : Int32) = (0 : Int32)))).1) k) ?_
      show Good p e below _ (T64.setTop (mkF m 92 #[.val (.long q0), .second, .val (.long q1), .second, .val (.long q2), .second, .val (.long q3), .second, .val (.int p4), .val (.int p5), .val (.int (2 : Int32)), .val (.int stt), .val (.ref b55), .val (.int (1 : Int32))] []))
      refine Good.back (fun _ k => XS.aload X64.here hx rfl (hb hby at_92) rfl rfl k) ?_
      show Good p e below _ (T64.setTop (mkF m 94 #[.val (.long q0), .second, .val (.long q1), .second, .val (.long q2), .second, .val (.long q3), .second, .val (.int p4), .val (.int p5), .val (.int (2 : Int32)), .val (.int stt), .val (.ref b55), .val (.int (1 : Int32))] [(.ref b55)]))
      refine Good.back (fun _ k => XS.iconst X64.here hx rfl (hb hby at_94) k) ?_
      show Good p e below _ (T64.setTop (mkF m 95 #[.val (.long q0), .second, .val (.long q1), .second, .val (.long q2), .second, .val (.long q3), .second, .val (.int p4), .val (.int p5), .val (.int (2 : Int32)), .val (.int stt), .val (.ref b55), .val (.int (1 : Int32))] [(.int (0 : Int32)), (.ref b55)]))
      have fc66 := o64_0
      obtain ⟨cl66, Ar66, qk66, S66, N66', H66, G66⟩ := fc66
      have hin66 : ¬ ((0 : Int32) < 0 ∨ cl66.slots.size ≤ ((0 : Int32)).toNatClampNeg) := inb_of S66 ⟨by decide, by decide⟩
      have hat66 : cl66.slots[((0 : Int32)).toNatClampNeg]? = some (.long (own_upd 0 q0 q3 stt)) := Has.at H66 hin66 rfl
      refine Good.back (X64.laload hx (j := (0 : Int32)) (v := (.long (own_upd 0 q0 q3 stt))) (Ar66.1) (State.isArrayOf_alike hZ.alike Ar66.2.1) Ar66.2.2 hin66 hat66 (g := (mkF m 95 #[.val (.long q0), .second, .val (.long q1), .second, .val (.long q2), .second, .val (.long q3), .second, .val (.int p4), .val (.int p5), .val (.int (2 : Int32)), .val (.int stt), .val (.ref b55), .val (.int (1 : Int32))] [(.int (0 : Int32)), (.ref b55)])) rfl rfl (hb hby at_95)) ?_
      show Good p e below _ (T64.setTop (mkF m 96 #[.val (.long q0), .second, .val (.long q1), .second, .val (.long q2), .second, .val (.long q3), .second, .val (.int p4), .val (.int p5), .val (.int (2 : Int32)), .val (.int stt), .val (.ref b55), .val (.int (1 : Int32))] [(.long (own_upd 0 q0 q3 stt))]))
      refine Good.back (fun _ k => XS.lloadN X64.here hx rfl (hb hby at_96) rfl k) ?_
      show Good p e below _ (T64.setTop (mkF m 97 #[.val (.long q0), .second, .val (.long q1), .second, .val (.long q2), .second, .val (.long q3), .second, .val (.int p4), .val (.int p5), .val (.int (2 : Int32)), .val (.int stt), .val (.ref b55), .val (.int (1 : Int32))] [(.long q0), (.long (own_upd 0 q0 q3 stt))]))
      refine Good.back (fun _ k => XS.lload X64.here hx rfl (hb hby at_97) rfl k) ?_
      show Good p e below _ (T64.setTop (mkF m 99 #[.val (.long q0), .second, .val (.long q1), .second, .val (.long q2), .second, .val (.long q3), .second, .val (.int p4), .val (.int p5), .val (.int (2 : Int32)), .val (.int stt), .val (.ref b55), .val (.int (1 : Int32))] [(.long q3), (.long q0), (.long (own_upd 0 q0 q3 stt))]))
      refine Good.back (fun _ k => XS.iload X64.here hx rfl (hb hby at_99) rfl k) ?_
      show Good p e below _ (T64.setTop (mkF m 101 #[.val (.long q0), .second, .val (.long q1), .second, .val (.long q2), .second, .val (.long q3), .second, .val (.int p4), .val (.int p5), .val (.int (2 : Int32)), .val (.int stt), .val (.ref b55), .val (.int (1 : Int32))] [(.int stt), (.long q3), (.long q0), (.long (own_upd 0 q0 q3 stt))]))
      obtain ⟨_, _, ⟨T67, L67, k67, n67⟩, -, X67, ⟨Lc67, hQ67, l67, y67, z67⟩, st67⟩ := Jvm.LawKit.callS X64 hx (y := (⟨"com/example/fradno/fradno/core/CellSetOrPinLaw", "moved", "(JI)J"⟩ : MethodName)) hown (mvT hZ (hw _ (List.mem_of_getElem? (i := 6) rfl))) (mvT hZ (hw _ (List.mem_of_getElem? (i := 7) rfl))) (mvT hZ (hw _ (List.mem_of_getElem? (i := 8) rfl))) (mvT hZ (hw _ (List.mem_of_getElem? (i := 9) rfl))) (by decide) (backOf (W := 4) (rm2 l Z a0 hw [] q3 stt  T64.heap n0 Z65 ) hZ (hw _ (List.mem_of_getElem? (i := 9) rfl)) (hw _ (List.mem_of_getElem? (i := 8) rfl)) (by decide) (by decide)) (g := (mkF m 101 #[.val (.long q0), .second, .val (.long q1), .second, .val (.long q2), .second, .val (.long q3), .second, .val (.int p4), .val (.int p5), .val (.int (2 : Int32)), .val (.int stt), .val (.ref b55), .val (.int (1 : Int32))] [(.int stt), (.long q3), (.long q0), (.long (own_upd 0 q0 q3 stt))])) rfl (by rw [hml]; rfl) (argsL := [(.long q3), (.int stt)]) (rest := [(.long q0), (.long (own_upd 0 q0 q3 stt))]) (lenOf own_pd63 rfl) rfl (by show 2 * 0 + _ ≤ _; exact Nat.le_of_eq rfl) (hb hby at_101) (fun _ _ => ⟨rfl, rfl, (by decide : 1 + 0 ≤ _), (by decide : 2 + 0 ≤ _)⟩)
      dsimp only [Pt.U, Pt.locs, Pt.cells, Pt.slots] at X67 l67 y67 z67 st67 hQ67
      subst l67 y67 z67
      obtain ⟨rfl, N67q, eh67⟩ := hQ67
      have N67 := Fr.app N64 N67q
      refine Good.back st67 ?_
      show Good p e below _ (T67.setTop (mkF m 104 #[.val (.long q0), .second, .val (.long q1), .second, .val (.long q2), .second, .val (.long q3), .second, .val (.int p4), .val (.int p5), .val (.int (2 : Int32)), .val (.int stt), .val (.ref b55), .val (.int (1 : Int32))] [(.long (own_moved q3 stt)), (.long q0), (.long (own_upd 0 q0 q3 stt))]))
      refine Good.back (fun _ k => XS.lor X67.here hx rfl (hb hby at_104) rfl k) ?_
      show Good p e below _ (T67.setTop (mkF m 105 #[.val (.long q0), .second, .val (.long q1), .second, .val (.long q2), .second, .val (.long q3), .second, .val (.int p4), .val (.int p5), .val (.int (2 : Int32)), .val (.int stt), .val (.ref b55), .val (.int (1 : Int32))] [(.long (q0 ||| (own_moved q3 stt))), (.long (own_upd 0 q0 q3 stt))]))
      refine Good.back (fun _ k => XS.lcmp X67.here hx rfl (hb hby at_105) rfl k) ?_
      show Good p e below _ (T67.setTop (mkF m 106 #[.val (.long q0), .second, .val (.long q1), .second, .val (.long q2), .second, .val (.long q3), .second, .val (.int p4), .val (.int p5), .val (.int (2 : Int32)), .val (.int stt), .val (.ref b55), .val (.int (1 : Int32))] [(.int (lcmpW (own_upd 0 q0 q3 stt) (q0 ||| (own_moved q3 stt))))]))
      refine Good.back (fun _ k => XS.ifNo X67.here hx rfl (hb hby at_106) rfl ((if0 _ _).trans (teq ((lw_eq _ _).mpr (own_law 0 stt _ _ _ hst (by omega) (by decide)) : (lcmpW (own_upd 0 q0 q3 stt) (q0 ||| (own_moved q3 stt))) = (0 : Int32))).2) k) ?_
      show Good p e below _ (T67.setTop (mkF m 109 #[.val (.long q0), .second, .val (.long q1), .second, .val (.long q2), .second, .val (.long q3), .second, .val (.int p4), .val (.int p5), .val (.int (2 : Int32)), .val (.int stt), .val (.ref b55), .val (.int (1 : Int32))] []))
      refine Good.back (fun _ k => XS.iconst X67.here hx rfl (hb hby at_109) k) ?_
      show Good p e below _ (T67.setTop (mkF m 110 #[.val (.long q0), .second, .val (.long q1), .second, .val (.long q2), .second, .val (.long q3), .second, .val (.int p4), .val (.int p5), .val (.int (2 : Int32)), .val (.int stt), .val (.ref b55), .val (.int (1 : Int32))] [(.int (1 : Int32))]))
      refine Good.back (fun _ k => XS.goto X67.here hx rfl (pc0 := 110) (pc' := 114) rfl (hb hby at_110) (by decide) (by decide) k) ?_
      show Good p e below _ (T67.setTop (mkF m 114 #[.val (.long q0), .second, .val (.long q1), .second, .val (.long q2), .second, .val (.long q3), .second, .val (.int p4), .val (.int p5), .val (.int (2 : Int32)), .val (.int stt), .val (.ref b55), .val (.int (1 : Int32))] [(.int (1 : Int32))]))
      refine Good.back (fun _ k => XS.istore X67.here hx rfl (hb hby at_114) rfl (l' := #[.val (.long q0), .second, .val (.long q1), .second, .val (.long q2), .second, .val (.long q3), .second, .val (.int p4), .val (.int p5), .val (.int (2 : Int32)), .val (.int stt), .val (.ref b55), .val (.int (1 : Int32))]) rfl k) ?_
      show Good p e below _ (T67.setTop (mkF m 116 #[.val (.long q0), .second, .val (.long q1), .second, .val (.long q2), .second, .val (.long q3), .second, .val (.int p4), .val (.int p5), .val (.int (2 : Int32)), .val (.int stt), .val (.ref b55), .val (.int (1 : Int32))] []))
      refine Good.back (fun _ k => XS.iload X67.here hx rfl (hb hby at_116) rfl k) ?_
      show Good p e below _ (T67.setTop (mkF m 118 #[.val (.long q0), .second, .val (.long q1), .second, .val (.long q2), .second, .val (.long q3), .second, .val (.int p4), .val (.int p5), .val (.int (2 : Int32)), .val (.int stt), .val (.ref b55), .val (.int (1 : Int32))] [(.int (2 : Int32))]))
      refine Good.back (fun _ k => XS.iconst X67.here hx rfl (hb hby at_118) k) ?_
      show Good p e below _ (T67.setTop (mkF m 119 #[.val (.long q0), .second, .val (.long q1), .second, .val (.long q2), .second, .val (.long q3), .second, .val (.int p4), .val (.int p5), .val (.int (2 : Int32)), .val (.int stt), .val (.ref b55), .val (.int (1 : Int32))] [(.int (1 : Int32)), (.int (2 : Int32))]))
      refine Good.back (fun _ k => XS.icmpNo X67.here hx rfl (hb hby at_119) rfl (tlt (by decide : ((1 : Int32) < (2 : Int32)))).2.2.2 k) ?_
      show Good p e below _ (T67.setTop (mkF m 122 #[.val (.long q0), .second, .val (.long q1), .second, .val (.long q2), .second, .val (.long q3), .second, .val (.int p4), .val (.int p5), .val (.int (2 : Int32)), .val (.int stt), .val (.ref b55), .val (.int (1 : Int32))] []))
      refine Good.back (fun _ k => XS.iload X67.here hx rfl (hb hby at_122) rfl k) ?_
      show Good p e below _ (T67.setTop (mkF m 124 #[.val (.long q0), .second, .val (.long q1), .second, .val (.long q2), .second, .val (.long q3), .second, .val (.int p4), .val (.int p5), .val (.int (2 : Int32)), .val (.int stt), .val (.ref b55), .val (.int (1 : Int32))] [(.int (1 : Int32))]))
      refine Good.back (fun _ k => XS.ifNo X67.here hx rfl (hb hby at_124) rfl ((if0 _ _).trans (feq (by decide : ¬ ((1 : Int32) = (0 : Int32)))).1) k) ?_
      show Good p e below _ (T67.setTop (mkF m 127 #[.val (.long q0), .second, .val (.long q1), .second, .val (.long q2), .second, .val (.long q3), .second, .val (.int p4), .val (.int p5), .val (.int (2 : Int32)), .val (.int stt), .val (.ref b55), .val (.int (1 : Int32))] []))
      refine Good.back (fun _ k => XS.aload X67.here hx rfl (hb hby at_127) rfl rfl k) ?_
      show Good p e below _ (T67.setTop (mkF m 129 #[.val (.long q0), .second, .val (.long q1), .second, .val (.long q2), .second, .val (.long q3), .second, .val (.int p4), .val (.int p5), .val (.int (2 : Int32)), .val (.int stt), .val (.ref b55), .val (.int (1 : Int32))] [(.ref b55)]))
      refine Good.back (fun _ k => XS.iconst X67.here hx rfl (hb hby at_129) k) ?_
      show Good p e below _ (T67.setTop (mkF m 130 #[.val (.long q0), .second, .val (.long q1), .second, .val (.long q2), .second, .val (.long q3), .second, .val (.int p4), .val (.int p5), .val (.int (2 : Int32)), .val (.int stt), .val (.ref b55), .val (.int (1 : Int32))] [(.int (1 : Int32)), (.ref b55)]))
      have fc68 := o64_0
      obtain ⟨cl68, Ar68, qk68, S68, N68', H68, G68⟩ := fc68
      have hin68 : ¬ ((1 : Int32) < 0 ∨ cl68.slots.size ≤ ((1 : Int32)).toNatClampNeg) := inb_of S68 ⟨by decide, by decide⟩
      have hat68 : cl68.slots[((1 : Int32)).toNatClampNeg]? = some (.long (own_upd 1 q1 q3 stt)) := Has.at H68 hin68 rfl
      refine Good.back (X67.laload hx (j := (1 : Int32)) (v := (.long (own_upd 1 q1 q3 stt))) (by rw [eh67]; exact Ar68.1) (State.isArrayOf_alike hZ.alike Ar68.2.1) Ar68.2.2 hin68 hat68 (g := (mkF m 130 #[.val (.long q0), .second, .val (.long q1), .second, .val (.long q2), .second, .val (.long q3), .second, .val (.int p4), .val (.int p5), .val (.int (2 : Int32)), .val (.int stt), .val (.ref b55), .val (.int (1 : Int32))] [(.int (1 : Int32)), (.ref b55)])) rfl rfl (hb hby at_130)) ?_
      show Good p e below _ (T67.setTop (mkF m 131 #[.val (.long q0), .second, .val (.long q1), .second, .val (.long q2), .second, .val (.long q3), .second, .val (.int p4), .val (.int p5), .val (.int (2 : Int32)), .val (.int stt), .val (.ref b55), .val (.int (1 : Int32))] [(.long (own_upd 1 q1 q3 stt))]))
      refine Good.back (fun _ k => XS.lloadN X67.here hx rfl (hb hby at_131) rfl k) ?_
      show Good p e below _ (T67.setTop (mkF m 132 #[.val (.long q0), .second, .val (.long q1), .second, .val (.long q2), .second, .val (.long q3), .second, .val (.int p4), .val (.int p5), .val (.int (2 : Int32)), .val (.int stt), .val (.ref b55), .val (.int (1 : Int32))] [(.long q1), (.long (own_upd 1 q1 q3 stt))]))
      refine Good.back (fun _ k => XS.lload X67.here hx rfl (hb hby at_132) rfl k) ?_
      show Good p e below _ (T67.setTop (mkF m 134 #[.val (.long q0), .second, .val (.long q1), .second, .val (.long q2), .second, .val (.long q3), .second, .val (.int p4), .val (.int p5), .val (.int (2 : Int32)), .val (.int stt), .val (.ref b55), .val (.int (1 : Int32))] [(.long q3), (.long q1), (.long (own_upd 1 q1 q3 stt))]))
      refine Good.back (fun _ k => XS.iload X67.here hx rfl (hb hby at_134) rfl k) ?_
      show Good p e below _ (T67.setTop (mkF m 136 #[.val (.long q0), .second, .val (.long q1), .second, .val (.long q2), .second, .val (.long q3), .second, .val (.int p4), .val (.int p5), .val (.int (2 : Int32)), .val (.int stt), .val (.ref b55), .val (.int (1 : Int32))] [(.int stt), (.long q3), (.long q1), (.long (own_upd 1 q1 q3 stt))]))
      refine Good.back (fun _ k => XS.bipush X67.here hx rfl (hb hby at_136) k) ?_
      show Good p e below _ (T67.setTop (mkF m 138 #[.val (.long q0), .second, .val (.long q1), .second, .val (.long q2), .second, .val (.long q3), .second, .val (.int p4), .val (.int p5), .val (.int (2 : Int32)), .val (.int stt), .val (.ref b55), .val (.int (1 : Int32))] [(.int (64 : Int32)), (.int stt), (.long q3), (.long q1), (.long (own_upd 1 q1 q3 stt))]))
      refine Good.back (fun _ k => XS.isub X67.here hx rfl (hb hby at_138) rfl k) ?_
      show Good p e below _ (T67.setTop (mkF m 139 #[.val (.long q0), .second, .val (.long q1), .second, .val (.long q2), .second, .val (.long q3), .second, .val (.int p4), .val (.int p5), .val (.int (2 : Int32)), .val (.int stt), .val (.ref b55), .val (.int (1 : Int32))] [(.int (stt - (64 : Int32))), (.long q3), (.long q1), (.long (own_upd 1 q1 q3 stt))]))
      obtain ⟨_, _, ⟨T69, L69, k69, n69⟩, -, X69, ⟨Lc69, hQ69, l69, y69, z69⟩, st69⟩ := Jvm.LawKit.callS X67 hx (y := (⟨"com/example/fradno/fradno/core/CellSetOrPinLaw", "moved", "(JI)J"⟩ : MethodName)) hown (mvT hZ (hw _ (List.mem_of_getElem? (i := 6) rfl))) (mvT hZ (hw _ (List.mem_of_getElem? (i := 7) rfl))) (mvT hZ (hw _ (List.mem_of_getElem? (i := 8) rfl))) (mvT hZ (hw _ (List.mem_of_getElem? (i := 9) rfl))) (by decide) (backOf (W := 4) (rm2 l Z a0 hw [] q3 (stt - (64 : Int32))  T64.heap n0 Z65 ) hZ (hw _ (List.mem_of_getElem? (i := 9) rfl)) (hw _ (List.mem_of_getElem? (i := 8) rfl)) (by decide) (by decide)) (g := (mkF m 139 #[.val (.long q0), .second, .val (.long q1), .second, .val (.long q2), .second, .val (.long q3), .second, .val (.int p4), .val (.int p5), .val (.int (2 : Int32)), .val (.int stt), .val (.ref b55), .val (.int (1 : Int32))] [(.int (stt - (64 : Int32))), (.long q3), (.long q1), (.long (own_upd 1 q1 q3 stt))])) rfl (by rw [hml]; rfl) (argsL := [(.long q3), (.int (stt - (64 : Int32)))]) (rest := [(.long q1), (.long (own_upd 1 q1 q3 stt))]) (lenOf own_pd63 rfl) rfl (by show 2 * 0 + _ ≤ _; exact Nat.le_of_eq rfl) (hb hby at_139) (fun _ _ => ⟨rfl, eh67, (by decide : 1 + 0 ≤ _), (by decide : 2 + 0 ≤ _)⟩)
      dsimp only [Pt.U, Pt.locs, Pt.cells, Pt.slots] at X69 l69 y69 z69 st69 hQ69
      subst l69 y69 z69
      obtain ⟨rfl, N69q, eh69⟩ := hQ69
      have N69 := Fr.app N67 N69q
      refine Good.back st69 ?_
      show Good p e below _ (T69.setTop (mkF m 142 #[.val (.long q0), .second, .val (.long q1), .second, .val (.long q2), .second, .val (.long q3), .second, .val (.int p4), .val (.int p5), .val (.int (2 : Int32)), .val (.int stt), .val (.ref b55), .val (.int (1 : Int32))] [(.long (own_moved q3 (stt - (64 : Int32)))), (.long q1), (.long (own_upd 1 q1 q3 stt))]))
      refine Good.back (fun _ k => XS.lor X69.here hx rfl (hb hby at_142) rfl k) ?_
      show Good p e below _ (T69.setTop (mkF m 143 #[.val (.long q0), .second, .val (.long q1), .second, .val (.long q2), .second, .val (.long q3), .second, .val (.int p4), .val (.int p5), .val (.int (2 : Int32)), .val (.int stt), .val (.ref b55), .val (.int (1 : Int32))] [(.long (q1 ||| (own_moved q3 (stt - (64 : Int32))))), (.long (own_upd 1 q1 q3 stt))]))
      refine Good.back (fun _ k => XS.lcmp X69.here hx rfl (hb hby at_143) rfl k) ?_
      show Good p e below _ (T69.setTop (mkF m 144 #[.val (.long q0), .second, .val (.long q1), .second, .val (.long q2), .second, .val (.long q3), .second, .val (.int p4), .val (.int p5), .val (.int (2 : Int32)), .val (.int stt), .val (.ref b55), .val (.int (1 : Int32))] [(.int (lcmpW (own_upd 1 q1 q3 stt) (q1 ||| (own_moved q3 (stt - (64 : Int32))))))]))
      refine Good.back (fun _ k => XS.ifNo X69.here hx rfl (hb hby at_144) rfl ((if0 _ _).trans (teq ((lw_eq _ _).mpr (own_law 1 stt _ _ _ hst (own_sub stt (64 : Int32) 64 rfl hst (by decide)) (by decide)) : (lcmpW (own_upd 1 q1 q3 stt) (q1 ||| (own_moved q3 (stt - (64 : Int32))))) = (0 : Int32))).2) k) ?_
      show Good p e below _ (T69.setTop (mkF m 147 #[.val (.long q0), .second, .val (.long q1), .second, .val (.long q2), .second, .val (.long q3), .second, .val (.int p4), .val (.int p5), .val (.int (2 : Int32)), .val (.int stt), .val (.ref b55), .val (.int (1 : Int32))] []))
      refine Good.back (fun _ k => XS.iconst X69.here hx rfl (hb hby at_147) k) ?_
      show Good p e below _ (T69.setTop (mkF m 148 #[.val (.long q0), .second, .val (.long q1), .second, .val (.long q2), .second, .val (.long q3), .second, .val (.int p4), .val (.int p5), .val (.int (2 : Int32)), .val (.int stt), .val (.ref b55), .val (.int (1 : Int32))] [(.int (1 : Int32))]))
      refine Good.back (fun _ k => XS.goto X69.here hx rfl (pc0 := 148) (pc' := 152) rfl (hb hby at_148) (by decide) (by decide) k) ?_
      show Good p e below _ (T69.setTop (mkF m 152 #[.val (.long q0), .second, .val (.long q1), .second, .val (.long q2), .second, .val (.long q3), .second, .val (.int p4), .val (.int p5), .val (.int (2 : Int32)), .val (.int stt), .val (.ref b55), .val (.int (1 : Int32))] [(.int (1 : Int32))]))
      refine Good.back (fun _ k => XS.istore X69.here hx rfl (hb hby at_152) rfl (l' := #[.val (.long q0), .second, .val (.long q1), .second, .val (.long q2), .second, .val (.long q3), .second, .val (.int p4), .val (.int p5), .val (.int (2 : Int32)), .val (.int stt), .val (.ref b55), .val (.int (1 : Int32))]) rfl k) ?_
      show Good p e below _ (T69.setTop (mkF m 154 #[.val (.long q0), .second, .val (.long q1), .second, .val (.long q2), .second, .val (.long q3), .second, .val (.int p4), .val (.int p5), .val (.int (2 : Int32)), .val (.int stt), .val (.ref b55), .val (.int (1 : Int32))] []))
      refine Good.back (fun _ k => XS.iload X69.here hx rfl (hb hby at_154) rfl k) ?_
      show Good p e below _ (T69.setTop (mkF m 156 #[.val (.long q0), .second, .val (.long q1), .second, .val (.long q2), .second, .val (.long q3), .second, .val (.int p4), .val (.int p5), .val (.int (2 : Int32)), .val (.int stt), .val (.ref b55), .val (.int (1 : Int32))] [(.int (2 : Int32))]))
      refine Good.back (fun _ k => XS.iconst X69.here hx rfl (hb hby at_156) k) ?_
      show Good p e below _ (T69.setTop (mkF m 157 #[.val (.long q0), .second, .val (.long q1), .second, .val (.long q2), .second, .val (.long q3), .second, .val (.int p4), .val (.int p5), .val (.int (2 : Int32)), .val (.int stt), .val (.ref b55), .val (.int (1 : Int32))] [(.int (2 : Int32)), (.int (2 : Int32))]))
      refine Good.back (fun _ k => XS.icmpYes X69.here hx rfl (pc0 := 157) (pc' := 194) rfl (hb hby at_157) rfl (flt (by decide : ¬ ((2 : Int32) < (2 : Int32)))).2.2.2 (by decide) (by decide) k) ?_
      show Good p e below _ (T69.setTop (mkF m 194 #[.val (.long q0), .second, .val (.long q1), .second, .val (.long q2), .second, .val (.long q3), .second, .val (.int p4), .val (.int p5), .val (.int (2 : Int32)), .val (.int stt), .val (.ref b55), .val (.int (1 : Int32))] []))
      refine Good.back (fun _ k => XS.iload X69.here hx rfl (hb hby at_194) rfl k) ?_
      show Good p e below _ (T69.setTop (mkF m 196 #[.val (.long q0), .second, .val (.long q1), .second, .val (.long q2), .second, .val (.long q3), .second, .val (.int p4), .val (.int p5), .val (.int (2 : Int32)), .val (.int stt), .val (.ref b55), .val (.int (1 : Int32))] [(.int (1 : Int32))]))
      obtain ⟨fs70, hr70, hrun70, hended70, hW70, hsame70⟩ := X69.leave (v := some (.int (1 : Int32))) (fun h => by rw [Bd.returns] at h; cases h)
      refine Good.done (retN X69 hx (t := .boolean) Bd.returns (by simp) (hb hby at_196) hr70) hrun70 hended70 ⟨_, _, rfl, ?_, ⟨_, rfl⟩, hW70, hsame70.mono (by decide) (by decide)⟩
      show Q0 Z q0 q1 q2 q3 p4 p5 h0 n0 _ T69.heap _
      rw [eh69]
      exact ⟨rfl, N69⟩
  · have he1' : (((p5.toUInt32 >>> ((1 : Int32) &&& 31).toUInt32).toInt32) &&& (3 : Int32)) = (3 : Int32) := he1
    rw [he1']
    show Good p e below _ (s₁.setTop (mkF m 8 #[.val (.long q0), .second, .val (.long q1), .second, .val (.long q2), .second, .val (.long q3), .second, .val (.int p4), .val (.int p5), .val (.int (3 : Int32)), .unset, .unset, .unset] []))
    refine Good.back (fun _ k => XS.iload X0.here hx rfl (hb hby at_8) rfl k) ?_
    show Good p e below _ (s₁.setTop (mkF m 10 #[.val (.long q0), .second, .val (.long q1), .second, .val (.long q2), .second, .val (.long q3), .second, .val (.int p4), .val (.int p5), .val (.int (3 : Int32)), .unset, .unset, .unset] [(.int p5)]))
    refine Good.back (fun _ k => XS.iconst X0.here hx rfl (hb hby at_10) k) ?_
    show Good p e below _ (s₁.setTop (mkF m 11 #[.val (.long q0), .second, .val (.long q1), .second, .val (.long q2), .second, .val (.long q3), .second, .val (.int p4), .val (.int p5), .val (.int (3 : Int32)), .unset, .unset, .unset] [(.int (1 : Int32)), (.int p5)]))
    refine Good.back (fun _ k => XS.iand X0.here hx rfl (hb hby at_11) rfl k) ?_
    show Good p e below _ (s₁.setTop (mkF m 12 #[.val (.long q0), .second, .val (.long q1), .second, .val (.long q2), .second, .val (.long q3), .second, .val (.int p4), .val (.int p5), .val (.int (3 : Int32)), .unset, .unset, .unset] [(.int (p5 &&& (1 : Int32)))]))
    by_cases hc12_71 : (p5 &&& (1 : Int32)) = (0 : Int32)
    · refine Good.back (fun _ k => XS.ifYes X0.here hx rfl (pc0 := 12) (pc' := 24) rfl (hb hby at_12) rfl ((if0 _ _).trans (teq hc12_71).1) (by decide) (by decide) k) ?_
      show Good p e below _ (s₁.setTop (mkF m 24 #[.val (.long q0), .second, .val (.long q1), .second, .val (.long q2), .second, .val (.long q3), .second, .val (.int p4), .val (.int p5), .val (.int (3 : Int32)), .unset, .unset, .unset] []))
      refine Good.back (fun _ k => XS.iload X0.here hx rfl (hb hby at_24) rfl k) ?_
      show Good p e below _ (s₁.setTop (mkF m 26 #[.val (.long q0), .second, .val (.long q1), .second, .val (.long q2), .second, .val (.long q3), .second, .val (.int p4), .val (.int p5), .val (.int (3 : Int32)), .unset, .unset, .unset] [(.int p4)]))
      refine Good.back (X0.ldcInt hx hown (mvT hZ (hw _ (List.mem_of_getElem? (i := 0) rfl))) (g := (mkF m 26 #[.val (.long q0), .second, .val (.long q1), .second, .val (.long q2), .second, .val (.long q3), .second, .val (.int p4), .val (.int p5), .val (.int (3 : Int32)), .unset, .unset, .unset] [(.int p4)])) rfl (hb hby at_26)) ?_
      show Good p e below _ (s₁.setTop (mkF m 28 #[.val (.long q0), .second, .val (.long q1), .second, .val (.long q2), .second, .val (.long q3), .second, .val (.int p4), .val (.int p5), .val (.int (3 : Int32)), .unset, .unset, .unset] [(.int (2147483647 : Int32)), (.int p4)]))
      refine Good.back (fun _ k => XS.iand X0.here hx rfl (hb hby at_28) rfl k) ?_
      show Good p e below _ (s₁.setTop (mkF m 29 #[.val (.long q0), .second, .val (.long q1), .second, .val (.long q2), .second, .val (.long q3), .second, .val (.int p4), .val (.int p5), .val (.int (3 : Int32)), .unset, .unset, .unset] [(.int (p4 &&& (2147483647 : Int32)))]))
      refine Good.back (fun _ k => XS.istore X0.here hx rfl (hb hby at_29) rfl (l' := #[.val (.long q0), .second, .val (.long q1), .second, .val (.long q2), .second, .val (.long q3), .second, .val (.int p4), .val (.int p5), .val (.int (3 : Int32)), .val (.int (p4 &&& (2147483647 : Int32))), .unset, .unset]) rfl k) ?_
      show Good p e below _ (s₁.setTop (mkF m 31 #[.val (.long q0), .second, .val (.long q1), .second, .val (.long q2), .second, .val (.long q3), .second, .val (.int p4), .val (.int p5), .val (.int (3 : Int32)), .val (.int (p4 &&& (2147483647 : Int32))), .unset, .unset] []))
      obtain ⟨stt, hstt⟩ : ∃ z, z = (p4 &&& (2147483647 : Int32)) := ⟨_, rfl⟩
      rw [← hstt]
      have hst : 0 ≤ stt.toInt := by rw [hstt]; exact (c_and _ _ (by decide)).1
      show Good p e below _ (s₁.setTop (mkF m 31 #[.val (.long q0), .second, .val (.long q1), .second, .val (.long q2), .second, .val (.long q3), .second, .val (.int p4), .val (.int p5), .val (.int (3 : Int32)), .val (.int stt), .unset, .unset] []))
      refine Good.back (fun _ k => XS.iload X0.here hx rfl (hb hby at_31) rfl k) ?_
      show Good p e below _ (s₁.setTop (mkF m 33 #[.val (.long q0), .second, .val (.long q1), .second, .val (.long q2), .second, .val (.long q3), .second, .val (.int p4), .val (.int p5), .val (.int (3 : Int32)), .val (.int stt), .unset, .unset] [(.int (3 : Int32))]))
      obtain ⟨T72, h72, k72, X72, e72, E72, A72, st72⟩ := newP X0 hx hZ (hw _ (List.mem_of_getElem? (i := 1) rfl)) e0 (g := (mkF m 33 #[.val (.long q0), .second, .val (.long q1), .second, .val (.long q2), .second, .val (.long q3), .second, .val (.int p4), .val (.int p5), .val (.int (3 : Int32)), .val (.int stt), .unset, .unset] [(.int (3 : Int32))])) rfl (hb hby at_33) rfl (by decide) (cap := 3) (by decide) (by decide) (by decide) (by decide)
      obtain ⟨b72, g72⟩ : ∃ z, z = h0.size := ⟨_, rfl⟩
      rw [← g72] at A72 st72
      refine Good.back st72 ?_
      have g_b72 : n0 ≤ b72 := Nat.le_trans Z0 (Nat.le_of_eq g72.symm)
      have Z73 : n0 ≤ h72.size := Nat.le_trans Z0 E72.1
      have f_74 : Arv Z h72 b72 k72 .long (3 : Int32) [(.long (0 : Int64)), (.long (0 : Int64)), (.long (0 : Int64))] (.long (0 : Int64)) := (Arv.new A72 (by decide)).pad (pad_rep [] (.long (0 : Int64)) 3)
      show Good p e below _ (T72.setTop (mkF m 35 #[.val (.long q0), .second, .val (.long q1), .second, .val (.long q2), .second, .val (.long q3), .second, .val (.int p4), .val (.int p5), .val (.int (3 : Int32)), .val (.int stt), .unset, .unset] [(.ref b72)]))
      refine Good.back (fun _ k => XS.astore X72.here hx rfl (hb hby at_35) rfl rfl (l' := #[.val (.long q0), .second, .val (.long q1), .second, .val (.long q2), .second, .val (.long q3), .second, .val (.int p4), .val (.int p5), .val (.int (3 : Int32)), .val (.int stt), .val (.ref b72), .unset]) rfl k) ?_
      show Good p e below _ (T72.setTop (mkF m 37 #[.val (.long q0), .second, .val (.long q1), .second, .val (.long q2), .second, .val (.long q3), .second, .val (.int p4), .val (.int p5), .val (.int (3 : Int32)), .val (.int stt), .val (.ref b72), .unset] []))
      refine Good.back (fun _ k => XS.iload X72.here hx rfl (hb hby at_37) rfl k) ?_
      show Good p e below _ (T72.setTop (mkF m 39 #[.val (.long q0), .second, .val (.long q1), .second, .val (.long q2), .second, .val (.long q3), .second, .val (.int p4), .val (.int p5), .val (.int (3 : Int32)), .val (.int stt), .val (.ref b72), .unset] [(.int (3 : Int32))]))
      refine Good.back (fun _ k => XS.ifNo X72.here hx rfl (hb hby at_39) rfl ((if0 _ _).trans (tlt (by decide : ((0 : Int32) < (3 : Int32)))).2.2.2) k) ?_
      show Good p e below _ (T72.setTop (mkF m 42 #[.val (.long q0), .second, .val (.long q1), .second, .val (.long q2), .second, .val (.long q3), .second, .val (.int p4), .val (.int p5), .val (.int (3 : Int32)), .val (.int stt), .val (.ref b72), .unset] []))
      refine Good.back (fun _ k => XS.aload X72.here hx rfl (hb hby at_42) rfl rfl k) ?_
      show Good p e below _ (T72.setTop (mkF m 44 #[.val (.long q0), .second, .val (.long q1), .second, .val (.long q2), .second, .val (.long q3), .second, .val (.int p4), .val (.int p5), .val (.int (3 : Int32)), .val (.int stt), .val (.ref b72), .unset] [(.ref b72)]))
      refine Good.back (fun _ k => XS.iconst X72.here hx rfl (hb hby at_44) k) ?_
      show Good p e below _ (T72.setTop (mkF m 45 #[.val (.long q0), .second, .val (.long q1), .second, .val (.long q2), .second, .val (.long q3), .second, .val (.int p4), .val (.int p5), .val (.int (3 : Int32)), .val (.int stt), .val (.ref b72), .unset] [(.int (0 : Int32)), (.ref b72)]))
      refine Good.back (fun _ k => XS.lloadN X72.here hx rfl (hb hby at_45) rfl k) ?_
      show Good p e below _ (T72.setTop (mkF m 46 #[.val (.long q0), .second, .val (.long q1), .second, .val (.long q2), .second, .val (.long q3), .second, .val (.int p4), .val (.int p5), .val (.int (3 : Int32)), .val (.int stt), .val (.ref b72), .unset] [(.long q0), (.int (0 : Int32)), (.ref b72)]))
      have fc75 := f_74
      obtain ⟨cl75, Ar75, qk75, S75, N75', H75, G75⟩ := fc75
      have hin75 : ¬ ((0 : Int32) < 0 ∨ cl75.slots.size ≤ ((0 : Int32)).toNatClampNeg) := inb_of S75 ⟨by decide, by decide⟩
      obtain ⟨T75, h75, X75, e75, W75, st75⟩ := stJ X72 hx hZ e72 Ar75 (j := (0 : Int32)) hin75 (g := (mkF m 46 #[.val (.long q0), .second, .val (.long q1), .second, .val (.long q2), .second, .val (.long q3), .second, .val (.int p4), .val (.int p5), .val (.int (3 : Int32)), .val (.int stt), .val (.ref b72), .unset] [(.long q0), (.int (0 : Int32)), (.ref b72)])) rfl rfl (hb hby at_46)
      refine Good.back st75 ?_
      have f_76 : Arv Z h75 b72 k72 .long (3 : Int32) [(.long q0), (.long (0 : Int64)), (.long (0 : Int64))] (.long (0 : Int64)) := Arv.set Ar75 qk75 S75 N75' H75 G75 rfl W75 0 rfl (Nat.le_of_ble_eq_true rfl)
      have N75 := Fr.snoc X75 N0 g_b72
      have Z77 : n0 ≤ h75.size := Nat.le_trans Z73 (Keep.of_wr W75).1
      show Good p e below _ (T75.setTop (mkF m 47 #[.val (.long q0), .second, .val (.long q1), .second, .val (.long q2), .second, .val (.long q3), .second, .val (.int p4), .val (.int p5), .val (.int (3 : Int32)), .val (.int stt), .val (.ref b72), .unset] []))
      refine Good.back (fun _ k => XS.iload X75.here hx rfl (hb hby at_47) rfl k) ?_
      show Good p e below _ (T75.setTop (mkF m 49 #[.val (.long q0), .second, .val (.long q1), .second, .val (.long q2), .second, .val (.long q3), .second, .val (.int p4), .val (.int p5), .val (.int (3 : Int32)), .val (.int stt), .val (.ref b72), .unset] [(.int (3 : Int32))]))
      refine Good.back (fun _ k => XS.iconst X75.here hx rfl (hb hby at_49) k) ?_
      show Good p e below _ (T75.setTop (mkF m 50 #[.val (.long q0), .second, .val (.long q1), .second, .val (.long q2), .second, .val (.long q3), .second, .val (.int p4), .val (.int p5), .val (.int (3 : Int32)), .val (.int stt), .val (.ref b72), .unset] [(.int (1 : Int32)), (.int (3 : Int32))]))
      refine Good.back (fun _ k => XS.icmpNo X75.here hx rfl (hb hby at_50) rfl (tlt (by decide : ((1 : Int32) < (3 : Int32)))).2.2.2 k) ?_
      show Good p e below _ (T75.setTop (mkF m 53 #[.val (.long q0), .second, .val (.long q1), .second, .val (.long q2), .second, .val (.long q3), .second, .val (.int p4), .val (.int p5), .val (.int (3 : Int32)), .val (.int stt), .val (.ref b72), .unset] []))
      refine Good.back (fun _ k => XS.aload X75.here hx rfl (hb hby at_53) rfl rfl k) ?_
      show Good p e below _ (T75.setTop (mkF m 55 #[.val (.long q0), .second, .val (.long q1), .second, .val (.long q2), .second, .val (.long q3), .second, .val (.int p4), .val (.int p5), .val (.int (3 : Int32)), .val (.int stt), .val (.ref b72), .unset] [(.ref b72)]))
      refine Good.back (fun _ k => XS.iconst X75.here hx rfl (hb hby at_55) k) ?_
      show Good p e below _ (T75.setTop (mkF m 56 #[.val (.long q0), .second, .val (.long q1), .second, .val (.long q2), .second, .val (.long q3), .second, .val (.int p4), .val (.int p5), .val (.int (3 : Int32)), .val (.int stt), .val (.ref b72), .unset] [(.int (1 : Int32)), (.ref b72)]))
      refine Good.back (fun _ k => XS.lloadN X75.here hx rfl (hb hby at_56) rfl k) ?_
      show Good p e below _ (T75.setTop (mkF m 57 #[.val (.long q0), .second, .val (.long q1), .second, .val (.long q2), .second, .val (.long q3), .second, .val (.int p4), .val (.int p5), .val (.int (3 : Int32)), .val (.int stt), .val (.ref b72), .unset] [(.long q1), (.int (1 : Int32)), (.ref b72)]))
      have fc78 := f_76
      obtain ⟨cl78, Ar78, qk78, S78, N78', H78, G78⟩ := fc78
      have hin78 : ¬ ((1 : Int32) < 0 ∨ cl78.slots.size ≤ ((1 : Int32)).toNatClampNeg) := inb_of S78 ⟨by decide, by decide⟩
      obtain ⟨T78, h78, X78, e78, W78, st78⟩ := stJ X75 hx hZ e75 Ar78 (j := (1 : Int32)) hin78 (g := (mkF m 57 #[.val (.long q0), .second, .val (.long q1), .second, .val (.long q2), .second, .val (.long q3), .second, .val (.int p4), .val (.int p5), .val (.int (3 : Int32)), .val (.int stt), .val (.ref b72), .unset] [(.long q1), (.int (1 : Int32)), (.ref b72)])) rfl rfl (hb hby at_57)
      refine Good.back st78 ?_
      have f_79 : Arv Z h78 b72 k72 .long (3 : Int32) [(.long q0), (.long q1), (.long (0 : Int64))] (.long (0 : Int64)) := Arv.set Ar78 qk78 S78 N78' H78 G78 rfl W78 1 rfl (Nat.le_of_ble_eq_true rfl)
      have N78 := Fr.snoc X78 N75 g_b72
      have Z80 : n0 ≤ h78.size := Nat.le_trans Z77 (Keep.of_wr W78).1
      show Good p e below _ (T78.setTop (mkF m 58 #[.val (.long q0), .second, .val (.long q1), .second, .val (.long q2), .second, .val (.long q3), .second, .val (.int p4), .val (.int p5), .val (.int (3 : Int32)), .val (.int stt), .val (.ref b72), .unset] []))
      refine Good.back (fun _ k => XS.iload X78.here hx rfl (hb hby at_58) rfl k) ?_
      show Good p e below _ (T78.setTop (mkF m 60 #[.val (.long q0), .second, .val (.long q1), .second, .val (.long q2), .second, .val (.long q3), .second, .val (.int p4), .val (.int p5), .val (.int (3 : Int32)), .val (.int stt), .val (.ref b72), .unset] [(.int (3 : Int32))]))
      refine Good.back (fun _ k => XS.iconst X78.here hx rfl (hb hby at_60) k) ?_
      show Good p e below _ (T78.setTop (mkF m 61 #[.val (.long q0), .second, .val (.long q1), .second, .val (.long q2), .second, .val (.long q3), .second, .val (.int p4), .val (.int p5), .val (.int (3 : Int32)), .val (.int stt), .val (.ref b72), .unset] [(.int (2 : Int32)), (.int (3 : Int32))]))
      refine Good.back (fun _ k => XS.icmpNo X78.here hx rfl (hb hby at_61) rfl (tlt (by decide : ((2 : Int32) < (3 : Int32)))).2.2.2 k) ?_
      show Good p e below _ (T78.setTop (mkF m 64 #[.val (.long q0), .second, .val (.long q1), .second, .val (.long q2), .second, .val (.long q3), .second, .val (.int p4), .val (.int p5), .val (.int (3 : Int32)), .val (.int stt), .val (.ref b72), .unset] []))
      refine Good.back (fun _ k => XS.aload X78.here hx rfl (hb hby at_64) rfl rfl k) ?_
      show Good p e below _ (T78.setTop (mkF m 66 #[.val (.long q0), .second, .val (.long q1), .second, .val (.long q2), .second, .val (.long q3), .second, .val (.int p4), .val (.int p5), .val (.int (3 : Int32)), .val (.int stt), .val (.ref b72), .unset] [(.ref b72)]))
      refine Good.back (fun _ k => XS.iconst X78.here hx rfl (hb hby at_66) k) ?_
      show Good p e below _ (T78.setTop (mkF m 67 #[.val (.long q0), .second, .val (.long q1), .second, .val (.long q2), .second, .val (.long q3), .second, .val (.int p4), .val (.int p5), .val (.int (3 : Int32)), .val (.int stt), .val (.ref b72), .unset] [(.int (2 : Int32)), (.ref b72)]))
      refine Good.back (fun _ k => XS.lload X78.here hx rfl (hb hby at_67) rfl k) ?_
      show Good p e below _ (T78.setTop (mkF m 69 #[.val (.long q0), .second, .val (.long q1), .second, .val (.long q2), .second, .val (.long q3), .second, .val (.int p4), .val (.int p5), .val (.int (3 : Int32)), .val (.int stt), .val (.ref b72), .unset] [(.long q2), (.int (2 : Int32)), (.ref b72)]))
      have fc81 := f_79
      obtain ⟨cl81, Ar81, qk81, S81, N81', H81, G81⟩ := fc81
      have hin81 : ¬ ((2 : Int32) < 0 ∨ cl81.slots.size ≤ ((2 : Int32)).toNatClampNeg) := inb_of S81 ⟨by decide, by decide⟩
      obtain ⟨T81, h81, X81, e81, W81, st81⟩ := stJ X78 hx hZ e78 Ar81 (j := (2 : Int32)) hin81 (g := (mkF m 69 #[.val (.long q0), .second, .val (.long q1), .second, .val (.long q2), .second, .val (.long q3), .second, .val (.int p4), .val (.int p5), .val (.int (3 : Int32)), .val (.int stt), .val (.ref b72), .unset] [(.long q2), (.int (2 : Int32)), (.ref b72)])) rfl rfl (hb hby at_69)
      refine Good.back st81 ?_
      have f_82 : Arv Z h81 b72 k72 .long (3 : Int32) [(.long q0), (.long q1), (.long q2)] (.long (0 : Int64)) := Arv.set Ar81 qk81 S81 N81' H81 G81 rfl W81 2 rfl (Nat.le_of_ble_eq_true rfl)
      have N81 := Fr.snoc X81 N78 g_b72
      have Z83 : n0 ≤ h81.size := Nat.le_trans Z80 (Keep.of_wr W81).1
      show Good p e below _ (T81.setTop (mkF m 70 #[.val (.long q0), .second, .val (.long q1), .second, .val (.long q2), .second, .val (.long q3), .second, .val (.int p4), .val (.int p5), .val (.int (3 : Int32)), .val (.int stt), .val (.ref b72), .unset] []))
      refine Good.back (fun _ k => XS.aload X81.here hx rfl (hb hby at_70) rfl rfl k) ?_
      show Good p e below _ (T81.setTop (mkF m 72 #[.val (.long q0), .second, .val (.long q1), .second, .val (.long q2), .second, .val (.long q3), .second, .val (.int p4), .val (.int p5), .val (.int (3 : Int32)), .val (.int stt), .val (.ref b72), .unset] [(.ref b72)]))
      refine Good.back (fun _ k => XS.lload X81.here hx rfl (hb hby at_72) rfl k) ?_
      show Good p e below _ (T81.setTop (mkF m 74 #[.val (.long q0), .second, .val (.long q1), .second, .val (.long q2), .second, .val (.long q3), .second, .val (.int p4), .val (.int p5), .val (.int (3 : Int32)), .val (.int stt), .val (.ref b72), .unset] [(.long q3), (.ref b72)]))
      refine Good.back (fun _ k => XS.iload X81.here hx rfl (hb hby at_74) rfl k) ?_
      show Good p e below _ (T81.setTop (mkF m 76 #[.val (.long q0), .second, .val (.long q1), .second, .val (.long q2), .second, .val (.long q3), .second, .val (.int p4), .val (.int p5), .val (.int (3 : Int32)), .val (.int stt), .val (.ref b72), .unset] [(.int stt), (.long q3), (.ref b72)]))
      obtain ⟨_, _, ⟨T84, L84, k84, n84⟩, -, X84, ⟨Lc84, hQ84, l84, y84, z84⟩, st84⟩ := Jvm.LawKit.callS X81 hx (y := (⟨"com/example/fradno/fradno/core/CellSet", "or", "([JJI)V"⟩ : MethodName)) hown (mvT hZ (hw _ (List.mem_of_getElem? (i := 2) rfl))) (mvT hZ (hw _ (List.mem_of_getElem? (i := 3) rfl))) (mvT hZ (hw _ (List.mem_of_getElem? (i := 4) rfl))) (mvT hZ (hw _ (List.mem_of_getElem? (i := 5) rfl))) (by decide) (backOf (W := 0) (rm1_3 l Z a0 hw [] b72 q3 stt k72 q0 q1 q2 h81 n0 Z83 f_82 g_b72 (hst)) hZ (hw _ (List.mem_of_getElem? (i := 5) rfl)) (hw _ (List.mem_of_getElem? (i := 4) rfl)) (by decide) (by decide)) (g := (mkF m 76 #[.val (.long q0), .second, .val (.long q1), .second, .val (.long q2), .second, .val (.long q3), .second, .val (.int p4), .val (.int p5), .val (.int (3 : Int32)), .val (.int stt), .val (.ref b72), .unset] [(.int stt), (.long q3), (.ref b72)])) rfl (by rw [hml]; rfl) (argsL := [(.ref b72), (.long q3), (.int stt)]) (rest := []) (lenOf own_pd62 rfl) rfl (by show 2 * 0 + _ ≤ _; exact Nat.le_of_eq rfl) (hb hby at_76) (fun _ _ => ⟨rfl, e81, (by decide : 1 + 0 ≤ _), (by decide : 3 + 0 ≤ _)⟩)
      dsimp only [Pt.U, Pt.locs, Pt.cells, Pt.slots] at X84 l84 y84 z84 st84 hQ84
      subst l84 y84 z84
      obtain ⟨rfl, N84q, Kq84, o84_0⟩ := hQ84
      have N84 := Fr.app N81 N84q
      have Z85 : n0 ≤ T84.heap.size := Nat.le_trans Z83 Kq84.1
      refine Good.back st84 ?_
      show Good p e below _ (T84.setTop (mkF m 79 #[.val (.long q0), .second, .val (.long q1), .second, .val (.long q2), .second, .val (.long q3), .second, .val (.int p4), .val (.int p5), .val (.int (3 : Int32)), .val (.int stt), .val (.ref b72), .unset] []))
      refine Good.back (fun _ k => XS.iconst X84.here hx rfl (hb hby at_79) k) ?_
      show Good p e below _ (T84.setTop (mkF m 80 #[.val (.long q0), .second, .val (.long q1), .second, .val (.long q2), .second, .val (.long q3), .second, .val (.int p4), .val (.int p5), .val (.int (3 : Int32)), .val (.int stt), .val (.ref b72), .unset] [(.int (1 : Int32))]))
      refine Good.back (fun _ k => XS.istore X84.here hx rfl (hb hby at_80) rfl (l' := #[.val (.long q0), .second, .val (.long q1), .second, .val (.long q2), .second, .val (.long q3), .second, .val (.int p4), .val (.int p5), .val (.int (3 : Int32)), .val (.int stt), .val (.ref b72), .val (.int (1 : Int32))]) rfl k) ?_
      show Good p e below _ (T84.setTop (mkF m 82 #[.val (.long q0), .second, .val (.long q1), .second, .val (.long q2), .second, .val (.long q3), .second, .val (.int p4), .val (.int p5), .val (.int (3 : Int32)), .val (.int stt), .val (.ref b72), .val (.int (1 : Int32))] []))
      refine Good.back (fun _ k => XS.iload X84.here hx rfl (hb hby at_82) rfl k) ?_
      show Good p e below _ (T84.setTop (mkF m 84 #[.val (.long q0), .second, .val (.long q1), .second, .val (.long q2), .second, .val (.long q3), .second, .val (.int p4), .val (.int p5), .val (.int (3 : Int32)), .val (.int stt), .val (.ref b72), .val (.int (1 : Int32))] [(.int (3 : Int32))]))
      refine Good.back (fun _ k => XS.ifNo X84.here hx rfl (hb hby at_84) rfl ((if0 _ _).trans (tlt (by decide : ((0 : Int32) < (3 : Int32)))).2.2.2) k) ?_
      show Good p e below _ (T84.setTop (mkF m 87 #[.val (.long q0), .second, .val (.long q1), .second, .val (.long q2), .second, .val (.long q3), .second, .val (.int p4), .val (.int p5), .val (.int (3 : Int32)), .val (.int stt), .val (.ref b72), .val (.int (1 : Int32))] []))
      refine Good.back (fun _ k => XS.iload X84.here hx rfl (hb hby at_87) rfl k) ?_
      show Good p e below _ (T84.setTop (mkF m 89 #[.val (.long q0), .second, .val (.long q1), .second, .val (.long q2), .second, .val (.long q3), .second, .val (.int p4), .val (.int p5), .val (.int (3 : Int32)), .val (.int stt), .val (.ref b72), .val (.int (1 : Int32))] [(.int (1 : Int32))]))
      refine Good.back (fun _ k => XS.ifNo X84.here hx rfl (hb hby at_89) rfl ((if0 _ _).trans (feq (by decide : ¬ ((1 : Int32) = (0 : Int32)))).1) k) ?_
      show Good p e below _ (T84.setTop (mkF m 92 #[.val (.long q0), .second, .val (.long q1), .second, .val (.long q2), .second, .val (.long q3), .second, .val (.int p4), .val (.int p5), .val (.int (3 : Int32)), .val (.int stt), .val (.ref b72), .val (.int (1 : Int32))] []))
      refine Good.back (fun _ k => XS.aload X84.here hx rfl (hb hby at_92) rfl rfl k) ?_
      show Good p e below _ (T84.setTop (mkF m 94 #[.val (.long q0), .second, .val (.long q1), .second, .val (.long q2), .second, .val (.long q3), .second, .val (.int p4), .val (.int p5), .val (.int (3 : Int32)), .val (.int stt), .val (.ref b72), .val (.int (1 : Int32))] [(.ref b72)]))
      refine Good.back (fun _ k => XS.iconst X84.here hx rfl (hb hby at_94) k) ?_
      show Good p e below _ (T84.setTop (mkF m 95 #[.val (.long q0), .second, .val (.long q1), .second, .val (.long q2), .second, .val (.long q3), .second, .val (.int p4), .val (.int p5), .val (.int (3 : Int32)), .val (.int stt), .val (.ref b72), .val (.int (1 : Int32))] [(.int (0 : Int32)), (.ref b72)]))
      have fc86 := o84_0
      obtain ⟨cl86, Ar86, qk86, S86, N86', H86, G86⟩ := fc86
      have hin86 : ¬ ((0 : Int32) < 0 ∨ cl86.slots.size ≤ ((0 : Int32)).toNatClampNeg) := inb_of S86 ⟨by decide, by decide⟩
      have hat86 : cl86.slots[((0 : Int32)).toNatClampNeg]? = some (.long (own_upd 0 q0 q3 stt)) := Has.at H86 hin86 rfl
      refine Good.back (X84.laload hx (j := (0 : Int32)) (v := (.long (own_upd 0 q0 q3 stt))) (Ar86.1) (State.isArrayOf_alike hZ.alike Ar86.2.1) Ar86.2.2 hin86 hat86 (g := (mkF m 95 #[.val (.long q0), .second, .val (.long q1), .second, .val (.long q2), .second, .val (.long q3), .second, .val (.int p4), .val (.int p5), .val (.int (3 : Int32)), .val (.int stt), .val (.ref b72), .val (.int (1 : Int32))] [(.int (0 : Int32)), (.ref b72)])) rfl rfl (hb hby at_95)) ?_
      show Good p e below _ (T84.setTop (mkF m 96 #[.val (.long q0), .second, .val (.long q1), .second, .val (.long q2), .second, .val (.long q3), .second, .val (.int p4), .val (.int p5), .val (.int (3 : Int32)), .val (.int stt), .val (.ref b72), .val (.int (1 : Int32))] [(.long (own_upd 0 q0 q3 stt))]))
      refine Good.back (fun _ k => XS.lloadN X84.here hx rfl (hb hby at_96) rfl k) ?_
      show Good p e below _ (T84.setTop (mkF m 97 #[.val (.long q0), .second, .val (.long q1), .second, .val (.long q2), .second, .val (.long q3), .second, .val (.int p4), .val (.int p5), .val (.int (3 : Int32)), .val (.int stt), .val (.ref b72), .val (.int (1 : Int32))] [(.long q0), (.long (own_upd 0 q0 q3 stt))]))
      refine Good.back (fun _ k => XS.lload X84.here hx rfl (hb hby at_97) rfl k) ?_
      show Good p e below _ (T84.setTop (mkF m 99 #[.val (.long q0), .second, .val (.long q1), .second, .val (.long q2), .second, .val (.long q3), .second, .val (.int p4), .val (.int p5), .val (.int (3 : Int32)), .val (.int stt), .val (.ref b72), .val (.int (1 : Int32))] [(.long q3), (.long q0), (.long (own_upd 0 q0 q3 stt))]))
      refine Good.back (fun _ k => XS.iload X84.here hx rfl (hb hby at_99) rfl k) ?_
      show Good p e below _ (T84.setTop (mkF m 101 #[.val (.long q0), .second, .val (.long q1), .second, .val (.long q2), .second, .val (.long q3), .second, .val (.int p4), .val (.int p5), .val (.int (3 : Int32)), .val (.int stt), .val (.ref b72), .val (.int (1 : Int32))] [(.int stt), (.long q3), (.long q0), (.long (own_upd 0 q0 q3 stt))]))
      obtain ⟨_, _, ⟨T87, L87, k87, n87⟩, -, X87, ⟨Lc87, hQ87, l87, y87, z87⟩, st87⟩ := Jvm.LawKit.callS X84 hx (y := (⟨"com/example/fradno/fradno/core/CellSetOrPinLaw", "moved", "(JI)J"⟩ : MethodName)) hown (mvT hZ (hw _ (List.mem_of_getElem? (i := 6) rfl))) (mvT hZ (hw _ (List.mem_of_getElem? (i := 7) rfl))) (mvT hZ (hw _ (List.mem_of_getElem? (i := 8) rfl))) (mvT hZ (hw _ (List.mem_of_getElem? (i := 9) rfl))) (by decide) (backOf (W := 4) (rm2 l Z a0 hw [] q3 stt  T84.heap n0 Z85 ) hZ (hw _ (List.mem_of_getElem? (i := 9) rfl)) (hw _ (List.mem_of_getElem? (i := 8) rfl)) (by decide) (by decide)) (g := (mkF m 101 #[.val (.long q0), .second, .val (.long q1), .second, .val (.long q2), .second, .val (.long q3), .second, .val (.int p4), .val (.int p5), .val (.int (3 : Int32)), .val (.int stt), .val (.ref b72), .val (.int (1 : Int32))] [(.int stt), (.long q3), (.long q0), (.long (own_upd 0 q0 q3 stt))])) rfl (by rw [hml]; rfl) (argsL := [(.long q3), (.int stt)]) (rest := [(.long q0), (.long (own_upd 0 q0 q3 stt))]) (lenOf own_pd63 rfl) rfl (by show 2 * 0 + _ ≤ _; exact Nat.le_of_eq rfl) (hb hby at_101) (fun _ _ => ⟨rfl, rfl, (by decide : 1 + 0 ≤ _), (by decide : 3 + 0 ≤ _)⟩)
      dsimp only [Pt.U, Pt.locs, Pt.cells, Pt.slots] at X87 l87 y87 z87 st87 hQ87
      subst l87 y87 z87
      obtain ⟨rfl, N87q, eh87⟩ := hQ87
      have N87 := Fr.app N84 N87q
      refine Good.back st87 ?_
      show Good p e below _ (T87.setTop (mkF m 104 #[.val (.long q0), .second, .val (.long q1), .second, .val (.long q2), .second, .val (.long q3), .second, .val (.int p4), .val (.int p5), .val (.int (3 : Int32)), .val (.int stt), .val (.ref b72), .val (.int (1 : Int32))] [(.long (own_moved q3 stt)), (.long q0), (.long (own_upd 0 q0 q3 stt))]))
      refine Good.back (fun _ k => XS.lor X87.here hx rfl (hb hby at_104) rfl k) ?_
      show Good p e below _ (T87.setTop (mkF m 105 #[.val (.long q0), .second, .val (.long q1), .second, .val (.long q2), .second, .val (.long q3), .second, .val (.int p4), .val (.int p5), .val (.int (3 : Int32)), .val (.int stt), .val (.ref b72), .val (.int (1 : Int32))] [(.long (q0 ||| (own_moved q3 stt))), (.long (own_upd 0 q0 q3 stt))]))
      refine Good.back (fun _ k => XS.lcmp X87.here hx rfl (hb hby at_105) rfl k) ?_
      show Good p e below _ (T87.setTop (mkF m 106 #[.val (.long q0), .second, .val (.long q1), .second, .val (.long q2), .second, .val (.long q3), .second, .val (.int p4), .val (.int p5), .val (.int (3 : Int32)), .val (.int stt), .val (.ref b72), .val (.int (1 : Int32))] [(.int (lcmpW (own_upd 0 q0 q3 stt) (q0 ||| (own_moved q3 stt))))]))
      refine Good.back (fun _ k => XS.ifNo X87.here hx rfl (hb hby at_106) rfl ((if0 _ _).trans (teq ((lw_eq _ _).mpr (own_law 0 stt _ _ _ hst (by omega) (by decide)) : (lcmpW (own_upd 0 q0 q3 stt) (q0 ||| (own_moved q3 stt))) = (0 : Int32))).2) k) ?_
      show Good p e below _ (T87.setTop (mkF m 109 #[.val (.long q0), .second, .val (.long q1), .second, .val (.long q2), .second, .val (.long q3), .second, .val (.int p4), .val (.int p5), .val (.int (3 : Int32)), .val (.int stt), .val (.ref b72), .val (.int (1 : Int32))] []))
      refine Good.back (fun _ k => XS.iconst X87.here hx rfl (hb hby at_109) k) ?_
      show Good p e below _ (T87.setTop (mkF m 110 #[.val (.long q0), .second, .val (.long q1), .second, .val (.long q2), .second, .val (.long q3), .second, .val (.int p4), .val (.int p5), .val (.int (3 : Int32)), .val (.int stt), .val (.ref b72), .val (.int (1 : Int32))] [(.int (1 : Int32))]))
      refine Good.back (fun _ k => XS.goto X87.here hx rfl (pc0 := 110) (pc' := 114) rfl (hb hby at_110) (by decide) (by decide) k) ?_
      show Good p e below _ (T87.setTop (mkF m 114 #[.val (.long q0), .second, .val (.long q1), .second, .val (.long q2), .second, .val (.long q3), .second, .val (.int p4), .val (.int p5), .val (.int (3 : Int32)), .val (.int stt), .val (.ref b72), .val (.int (1 : Int32))] [(.int (1 : Int32))]))
      refine Good.back (fun _ k => XS.istore X87.here hx rfl (hb hby at_114) rfl (l' := #[.val (.long q0), .second, .val (.long q1), .second, .val (.long q2), .second, .val (.long q3), .second, .val (.int p4), .val (.int p5), .val (.int (3 : Int32)), .val (.int stt), .val (.ref b72), .val (.int (1 : Int32))]) rfl k) ?_
      show Good p e below _ (T87.setTop (mkF m 116 #[.val (.long q0), .second, .val (.long q1), .second, .val (.long q2), .second, .val (.long q3), .second, .val (.int p4), .val (.int p5), .val (.int (3 : Int32)), .val (.int stt), .val (.ref b72), .val (.int (1 : Int32))] []))
      refine Good.back (fun _ k => XS.iload X87.here hx rfl (hb hby at_116) rfl k) ?_
      show Good p e below _ (T87.setTop (mkF m 118 #[.val (.long q0), .second, .val (.long q1), .second, .val (.long q2), .second, .val (.long q3), .second, .val (.int p4), .val (.int p5), .val (.int (3 : Int32)), .val (.int stt), .val (.ref b72), .val (.int (1 : Int32))] [(.int (3 : Int32))]))
      refine Good.back (fun _ k => XS.iconst X87.here hx rfl (hb hby at_118) k) ?_
      show Good p e below _ (T87.setTop (mkF m 119 #[.val (.long q0), .second, .val (.long q1), .second, .val (.long q2), .second, .val (.long q3), .second, .val (.int p4), .val (.int p5), .val (.int (3 : Int32)), .val (.int stt), .val (.ref b72), .val (.int (1 : Int32))] [(.int (1 : Int32)), (.int (3 : Int32))]))
      refine Good.back (fun _ k => XS.icmpNo X87.here hx rfl (hb hby at_119) rfl (tlt (by decide : ((1 : Int32) < (3 : Int32)))).2.2.2 k) ?_
      show Good p e below _ (T87.setTop (mkF m 122 #[.val (.long q0), .second, .val (.long q1), .second, .val (.long q2), .second, .val (.long q3), .second, .val (.int p4), .val (.int p5), .val (.int (3 : Int32)), .val (.int stt), .val (.ref b72), .val (.int (1 : Int32))] []))
      refine Good.back (fun _ k => XS.iload X87.here hx rfl (hb hby at_122) rfl k) ?_
      show Good p e below _ (T87.setTop (mkF m 124 #[.val (.long q0), .second, .val (.long q1), .second, .val (.long q2), .second, .val (.long q3), .second, .val (.int p4), .val (.int p5), .val (.int (3 : Int32)), .val (.int stt), .val (.ref b72), .val (.int (1 : Int32))] [(.int (1 : Int32))]))
      refine Good.back (fun _ k => XS.ifNo X87.here hx rfl (hb hby at_124) rfl ((if0 _ _).trans (feq (by decide : ¬ ((1 : Int32) = (0 : Int32)))).1) k) ?_
      show Good p e below _ (T87.setTop (mkF m 127 #[.val (.long q0), .second, .val (.long q1), .second, .val (.long q2), .second, .val (.long q3), .second, .val (.int p4), .val (.int p5), .val (.int (3 : Int32)), .val (.int stt), .val (.ref b72), .val (.int (1 : Int32))] []))
      refine Good.back (fun _ k => XS.aload X87.here hx rfl (hb hby at_127) rfl rfl k) ?_
      show Good p e below _ (T87.setTop (mkF m 129 #[.val (.long q0), .second, .val (.long q1), .second, .val (.long q2), .second, .val (.long q3), .second, .val (.int p4), .val (.int p5), .val (.int (3 : Int32)), .val (.int stt), .val (.ref b72), .val (.int (1 : Int32))] [(.ref b72)]))
      refine Good.back (fun _ k => XS.iconst X87.here hx rfl (hb hby at_129) k) ?_
      show Good p e below _ (T87.setTop (mkF m 130 #[.val (.long q0), .second, .val (.long q1), .second, .val (.long q2), .second, .val (.long q3), .second, .val (.int p4), .val (.int p5), .val (.int (3 : Int32)), .val (.int stt), .val (.ref b72), .val (.int (1 : Int32))] [(.int (1 : Int32)), (.ref b72)]))
      have fc88 := o84_0
      obtain ⟨cl88, Ar88, qk88, S88, N88', H88, G88⟩ := fc88
      have hin88 : ¬ ((1 : Int32) < 0 ∨ cl88.slots.size ≤ ((1 : Int32)).toNatClampNeg) := inb_of S88 ⟨by decide, by decide⟩
      have hat88 : cl88.slots[((1 : Int32)).toNatClampNeg]? = some (.long (own_upd 1 q1 q3 stt)) := Has.at H88 hin88 rfl
      refine Good.back (X87.laload hx (j := (1 : Int32)) (v := (.long (own_upd 1 q1 q3 stt))) (by rw [eh87]; exact Ar88.1) (State.isArrayOf_alike hZ.alike Ar88.2.1) Ar88.2.2 hin88 hat88 (g := (mkF m 130 #[.val (.long q0), .second, .val (.long q1), .second, .val (.long q2), .second, .val (.long q3), .second, .val (.int p4), .val (.int p5), .val (.int (3 : Int32)), .val (.int stt), .val (.ref b72), .val (.int (1 : Int32))] [(.int (1 : Int32)), (.ref b72)])) rfl rfl (hb hby at_130)) ?_
      show Good p e below _ (T87.setTop (mkF m 131 #[.val (.long q0), .second, .val (.long q1), .second, .val (.long q2), .second, .val (.long q3), .second, .val (.int p4), .val (.int p5), .val (.int (3 : Int32)), .val (.int stt), .val (.ref b72), .val (.int (1 : Int32))] [(.long (own_upd 1 q1 q3 stt))]))
      refine Good.back (fun _ k => XS.lloadN X87.here hx rfl (hb hby at_131) rfl k) ?_
      show Good p e below _ (T87.setTop (mkF m 132 #[.val (.long q0), .second, .val (.long q1), .second, .val (.long q2), .second, .val (.long q3), .second, .val (.int p4), .val (.int p5), .val (.int (3 : Int32)), .val (.int stt), .val (.ref b72), .val (.int (1 : Int32))] [(.long q1), (.long (own_upd 1 q1 q3 stt))]))
      refine Good.back (fun _ k => XS.lload X87.here hx rfl (hb hby at_132) rfl k) ?_
      show Good p e below _ (T87.setTop (mkF m 134 #[.val (.long q0), .second, .val (.long q1), .second, .val (.long q2), .second, .val (.long q3), .second, .val (.int p4), .val (.int p5), .val (.int (3 : Int32)), .val (.int stt), .val (.ref b72), .val (.int (1 : Int32))] [(.long q3), (.long q1), (.long (own_upd 1 q1 q3 stt))]))
      refine Good.back (fun _ k => XS.iload X87.here hx rfl (hb hby at_134) rfl k) ?_
      show Good p e below _ (T87.setTop (mkF m 136 #[.val (.long q0), .second, .val (.long q1), .second, .val (.long q2), .second, .val (.long q3), .second, .val (.int p4), .val (.int p5), .val (.int (3 : Int32)), .val (.int stt), .val (.ref b72), .val (.int (1 : Int32))] [(.int stt), (.long q3), (.long q1), (.long (own_upd 1 q1 q3 stt))]))
      refine Good.back (fun _ k => XS.bipush X87.here hx rfl (hb hby at_136) k) ?_
      show Good p e below _ (T87.setTop (mkF m 138 #[.val (.long q0), .second, .val (.long q1), .second, .val (.long q2), .second, .val (.long q3), .second, .val (.int p4), .val (.int p5), .val (.int (3 : Int32)), .val (.int stt), .val (.ref b72), .val (.int (1 : Int32))] [(.int (64 : Int32)), (.int stt), (.long q3), (.long q1), (.long (own_upd 1 q1 q3 stt))]))
      refine Good.back (fun _ k => XS.isub X87.here hx rfl (hb hby at_138) rfl k) ?_
      show Good p e below _ (T87.setTop (mkF m 139 #[.val (.long q0), .second, .val (.long q1), .second, .val (.long q2), .second, .val (.long q3), .second, .val (.int p4), .val (.int p5), .val (.int (3 : Int32)), .val (.int stt), .val (.ref b72), .val (.int (1 : Int32))] [(.int (stt - (64 : Int32))), (.long q3), (.long q1), (.long (own_upd 1 q1 q3 stt))]))
      obtain ⟨_, _, ⟨T89, L89, k89, n89⟩, -, X89, ⟨Lc89, hQ89, l89, y89, z89⟩, st89⟩ := Jvm.LawKit.callS X87 hx (y := (⟨"com/example/fradno/fradno/core/CellSetOrPinLaw", "moved", "(JI)J"⟩ : MethodName)) hown (mvT hZ (hw _ (List.mem_of_getElem? (i := 6) rfl))) (mvT hZ (hw _ (List.mem_of_getElem? (i := 7) rfl))) (mvT hZ (hw _ (List.mem_of_getElem? (i := 8) rfl))) (mvT hZ (hw _ (List.mem_of_getElem? (i := 9) rfl))) (by decide) (backOf (W := 4) (rm2 l Z a0 hw [] q3 (stt - (64 : Int32))  T84.heap n0 Z85 ) hZ (hw _ (List.mem_of_getElem? (i := 9) rfl)) (hw _ (List.mem_of_getElem? (i := 8) rfl)) (by decide) (by decide)) (g := (mkF m 139 #[.val (.long q0), .second, .val (.long q1), .second, .val (.long q2), .second, .val (.long q3), .second, .val (.int p4), .val (.int p5), .val (.int (3 : Int32)), .val (.int stt), .val (.ref b72), .val (.int (1 : Int32))] [(.int (stt - (64 : Int32))), (.long q3), (.long q1), (.long (own_upd 1 q1 q3 stt))])) rfl (by rw [hml]; rfl) (argsL := [(.long q3), (.int (stt - (64 : Int32)))]) (rest := [(.long q1), (.long (own_upd 1 q1 q3 stt))]) (lenOf own_pd63 rfl) rfl (by show 2 * 0 + _ ≤ _; exact Nat.le_of_eq rfl) (hb hby at_139) (fun _ _ => ⟨rfl, eh87, (by decide : 1 + 0 ≤ _), (by decide : 3 + 0 ≤ _)⟩)
      dsimp only [Pt.U, Pt.locs, Pt.cells, Pt.slots] at X89 l89 y89 z89 st89 hQ89
      subst l89 y89 z89
      obtain ⟨rfl, N89q, eh89⟩ := hQ89
      have N89 := Fr.app N87 N89q
      refine Good.back st89 ?_
      show Good p e below _ (T89.setTop (mkF m 142 #[.val (.long q0), .second, .val (.long q1), .second, .val (.long q2), .second, .val (.long q3), .second, .val (.int p4), .val (.int p5), .val (.int (3 : Int32)), .val (.int stt), .val (.ref b72), .val (.int (1 : Int32))] [(.long (own_moved q3 (stt - (64 : Int32)))), (.long q1), (.long (own_upd 1 q1 q3 stt))]))
      refine Good.back (fun _ k => XS.lor X89.here hx rfl (hb hby at_142) rfl k) ?_
      show Good p e below _ (T89.setTop (mkF m 143 #[.val (.long q0), .second, .val (.long q1), .second, .val (.long q2), .second, .val (.long q3), .second, .val (.int p4), .val (.int p5), .val (.int (3 : Int32)), .val (.int stt), .val (.ref b72), .val (.int (1 : Int32))] [(.long (q1 ||| (own_moved q3 (stt - (64 : Int32))))), (.long (own_upd 1 q1 q3 stt))]))
      refine Good.back (fun _ k => XS.lcmp X89.here hx rfl (hb hby at_143) rfl k) ?_
      show Good p e below _ (T89.setTop (mkF m 144 #[.val (.long q0), .second, .val (.long q1), .second, .val (.long q2), .second, .val (.long q3), .second, .val (.int p4), .val (.int p5), .val (.int (3 : Int32)), .val (.int stt), .val (.ref b72), .val (.int (1 : Int32))] [(.int (lcmpW (own_upd 1 q1 q3 stt) (q1 ||| (own_moved q3 (stt - (64 : Int32))))))]))
      refine Good.back (fun _ k => XS.ifNo X89.here hx rfl (hb hby at_144) rfl ((if0 _ _).trans (teq ((lw_eq _ _).mpr (own_law 1 stt _ _ _ hst (own_sub stt (64 : Int32) 64 rfl hst (by decide)) (by decide)) : (lcmpW (own_upd 1 q1 q3 stt) (q1 ||| (own_moved q3 (stt - (64 : Int32))))) = (0 : Int32))).2) k) ?_
      show Good p e below _ (T89.setTop (mkF m 147 #[.val (.long q0), .second, .val (.long q1), .second, .val (.long q2), .second, .val (.long q3), .second, .val (.int p4), .val (.int p5), .val (.int (3 : Int32)), .val (.int stt), .val (.ref b72), .val (.int (1 : Int32))] []))
      refine Good.back (fun _ k => XS.iconst X89.here hx rfl (hb hby at_147) k) ?_
      show Good p e below _ (T89.setTop (mkF m 148 #[.val (.long q0), .second, .val (.long q1), .second, .val (.long q2), .second, .val (.long q3), .second, .val (.int p4), .val (.int p5), .val (.int (3 : Int32)), .val (.int stt), .val (.ref b72), .val (.int (1 : Int32))] [(.int (1 : Int32))]))
      refine Good.back (fun _ k => XS.goto X89.here hx rfl (pc0 := 148) (pc' := 152) rfl (hb hby at_148) (by decide) (by decide) k) ?_
      show Good p e below _ (T89.setTop (mkF m 152 #[.val (.long q0), .second, .val (.long q1), .second, .val (.long q2), .second, .val (.long q3), .second, .val (.int p4), .val (.int p5), .val (.int (3 : Int32)), .val (.int stt), .val (.ref b72), .val (.int (1 : Int32))] [(.int (1 : Int32))]))
      refine Good.back (fun _ k => XS.istore X89.here hx rfl (hb hby at_152) rfl (l' := #[.val (.long q0), .second, .val (.long q1), .second, .val (.long q2), .second, .val (.long q3), .second, .val (.int p4), .val (.int p5), .val (.int (3 : Int32)), .val (.int stt), .val (.ref b72), .val (.int (1 : Int32))]) rfl k) ?_
      show Good p e below _ (T89.setTop (mkF m 154 #[.val (.long q0), .second, .val (.long q1), .second, .val (.long q2), .second, .val (.long q3), .second, .val (.int p4), .val (.int p5), .val (.int (3 : Int32)), .val (.int stt), .val (.ref b72), .val (.int (1 : Int32))] []))
      refine Good.back (fun _ k => XS.iload X89.here hx rfl (hb hby at_154) rfl k) ?_
      show Good p e below _ (T89.setTop (mkF m 156 #[.val (.long q0), .second, .val (.long q1), .second, .val (.long q2), .second, .val (.long q3), .second, .val (.int p4), .val (.int p5), .val (.int (3 : Int32)), .val (.int stt), .val (.ref b72), .val (.int (1 : Int32))] [(.int (3 : Int32))]))
      refine Good.back (fun _ k => XS.iconst X89.here hx rfl (hb hby at_156) k) ?_
      show Good p e below _ (T89.setTop (mkF m 157 #[.val (.long q0), .second, .val (.long q1), .second, .val (.long q2), .second, .val (.long q3), .second, .val (.int p4), .val (.int p5), .val (.int (3 : Int32)), .val (.int stt), .val (.ref b72), .val (.int (1 : Int32))] [(.int (2 : Int32)), (.int (3 : Int32))]))
      refine Good.back (fun _ k => XS.icmpNo X89.here hx rfl (hb hby at_157) rfl (tlt (by decide : ((2 : Int32) < (3 : Int32)))).2.2.2 k) ?_
      show Good p e below _ (T89.setTop (mkF m 160 #[.val (.long q0), .second, .val (.long q1), .second, .val (.long q2), .second, .val (.long q3), .second, .val (.int p4), .val (.int p5), .val (.int (3 : Int32)), .val (.int stt), .val (.ref b72), .val (.int (1 : Int32))] []))
      refine Good.back (fun _ k => XS.iload X89.here hx rfl (hb hby at_160) rfl k) ?_
      show Good p e below _ (T89.setTop (mkF m 162 #[.val (.long q0), .second, .val (.long q1), .second, .val (.long q2), .second, .val (.long q3), .second, .val (.int p4), .val (.int p5), .val (.int (3 : Int32)), .val (.int stt), .val (.ref b72), .val (.int (1 : Int32))] [(.int (1 : Int32))]))
      refine Good.back (fun _ k => XS.ifNo X89.here hx rfl (hb hby at_162) rfl ((if0 _ _).trans (feq (by decide : ¬ ((1 : Int32) = (0 : Int32)))).1) k) ?_
      show Good p e below _ (T89.setTop (mkF m 165 #[.val (.long q0), .second, .val (.long q1), .second, .val (.long q2), .second, .val (.long q3), .second, .val (.int p4), .val (.int p5), .val (.int (3 : Int32)), .val (.int stt), .val (.ref b72), .val (.int (1 : Int32))] []))
      refine Good.back (fun _ k => XS.aload X89.here hx rfl (hb hby at_165) rfl rfl k) ?_
      show Good p e below _ (T89.setTop (mkF m 167 #[.val (.long q0), .second, .val (.long q1), .second, .val (.long q2), .second, .val (.long q3), .second, .val (.int p4), .val (.int p5), .val (.int (3 : Int32)), .val (.int stt), .val (.ref b72), .val (.int (1 : Int32))] [(.ref b72)]))
      refine Good.back (fun _ k => XS.iconst X89.here hx rfl (hb hby at_167) k) ?_
      show Good p e below _ (T89.setTop (mkF m 168 #[.val (.long q0), .second, .val (.long q1), .second, .val (.long q2), .second, .val (.long q3), .second, .val (.int p4), .val (.int p5), .val (.int (3 : Int32)), .val (.int stt), .val (.ref b72), .val (.int (1 : Int32))] [(.int (2 : Int32)), (.ref b72)]))
      have fc90 := o84_0
      obtain ⟨cl90, Ar90, qk90, S90, N90', H90, G90⟩ := fc90
      have hin90 : ¬ ((2 : Int32) < 0 ∨ cl90.slots.size ≤ ((2 : Int32)).toNatClampNeg) := inb_of S90 ⟨by decide, by decide⟩
      have hat90 : cl90.slots[((2 : Int32)).toNatClampNeg]? = some (.long (own_upd 2 q2 q3 stt)) := Has.at H90 hin90 rfl
      refine Good.back (X89.laload hx (j := (2 : Int32)) (v := (.long (own_upd 2 q2 q3 stt))) (by rw [eh89]; exact Ar90.1) (State.isArrayOf_alike hZ.alike Ar90.2.1) Ar90.2.2 hin90 hat90 (g := (mkF m 168 #[.val (.long q0), .second, .val (.long q1), .second, .val (.long q2), .second, .val (.long q3), .second, .val (.int p4), .val (.int p5), .val (.int (3 : Int32)), .val (.int stt), .val (.ref b72), .val (.int (1 : Int32))] [(.int (2 : Int32)), (.ref b72)])) rfl rfl (hb hby at_168)) ?_
      show Good p e below _ (T89.setTop (mkF m 169 #[.val (.long q0), .second, .val (.long q1), .second, .val (.long q2), .second, .val (.long q3), .second, .val (.int p4), .val (.int p5), .val (.int (3 : Int32)), .val (.int stt), .val (.ref b72), .val (.int (1 : Int32))] [(.long (own_upd 2 q2 q3 stt))]))
      refine Good.back (fun _ k => XS.lload X89.here hx rfl (hb hby at_169) rfl k) ?_
      show Good p e below _ (T89.setTop (mkF m 171 #[.val (.long q0), .second, .val (.long q1), .second, .val (.long q2), .second, .val (.long q3), .second, .val (.int p4), .val (.int p5), .val (.int (3 : Int32)), .val (.int stt), .val (.ref b72), .val (.int (1 : Int32))] [(.long q2), (.long (own_upd 2 q2 q3 stt))]))
      refine Good.back (fun _ k => XS.lload X89.here hx rfl (hb hby at_171) rfl k) ?_
      show Good p e below _ (T89.setTop (mkF m 173 #[.val (.long q0), .second, .val (.long q1), .second, .val (.long q2), .second, .val (.long q3), .second, .val (.int p4), .val (.int p5), .val (.int (3 : Int32)), .val (.int stt), .val (.ref b72), .val (.int (1 : Int32))] [(.long q3), (.long q2), (.long (own_upd 2 q2 q3 stt))]))
      refine Good.back (fun _ k => XS.iload X89.here hx rfl (hb hby at_173) rfl k) ?_
      show Good p e below _ (T89.setTop (mkF m 175 #[.val (.long q0), .second, .val (.long q1), .second, .val (.long q2), .second, .val (.long q3), .second, .val (.int p4), .val (.int p5), .val (.int (3 : Int32)), .val (.int stt), .val (.ref b72), .val (.int (1 : Int32))] [(.int stt), (.long q3), (.long q2), (.long (own_upd 2 q2 q3 stt))]))
      refine Good.back (fun _ k => XS.sipush X89.here hx rfl (hb hby at_175) k) ?_
      show Good p e below _ (T89.setTop (mkF m 178 #[.val (.long q0), .second, .val (.long q1), .second, .val (.long q2), .second, .val (.long q3), .second, .val (.int p4), .val (.int p5), .val (.int (3 : Int32)), .val (.int stt), .val (.ref b72), .val (.int (1 : Int32))] [(.int (128 : Int32)), (.int stt), (.long q3), (.long q2), (.long (own_upd 2 q2 q3 stt))]))
      refine Good.back (fun _ k => XS.isub X89.here hx rfl (hb hby at_178) rfl k) ?_
      show Good p e below _ (T89.setTop (mkF m 179 #[.val (.long q0), .second, .val (.long q1), .second, .val (.long q2), .second, .val (.long q3), .second, .val (.int p4), .val (.int p5), .val (.int (3 : Int32)), .val (.int stt), .val (.ref b72), .val (.int (1 : Int32))] [(.int (stt - (128 : Int32))), (.long q3), (.long q2), (.long (own_upd 2 q2 q3 stt))]))
      obtain ⟨_, _, ⟨T91, L91, k91, n91⟩, -, X91, ⟨Lc91, hQ91, l91, y91, z91⟩, st91⟩ := Jvm.LawKit.callS X89 hx (y := (⟨"com/example/fradno/fradno/core/CellSetOrPinLaw", "moved", "(JI)J"⟩ : MethodName)) hown (mvT hZ (hw _ (List.mem_of_getElem? (i := 6) rfl))) (mvT hZ (hw _ (List.mem_of_getElem? (i := 7) rfl))) (mvT hZ (hw _ (List.mem_of_getElem? (i := 8) rfl))) (mvT hZ (hw _ (List.mem_of_getElem? (i := 9) rfl))) (by decide) (backOf (W := 4) (rm2 l Z a0 hw [] q3 (stt - (128 : Int32))  T84.heap n0 Z85 ) hZ (hw _ (List.mem_of_getElem? (i := 9) rfl)) (hw _ (List.mem_of_getElem? (i := 8) rfl)) (by decide) (by decide)) (g := (mkF m 179 #[.val (.long q0), .second, .val (.long q1), .second, .val (.long q2), .second, .val (.long q3), .second, .val (.int p4), .val (.int p5), .val (.int (3 : Int32)), .val (.int stt), .val (.ref b72), .val (.int (1 : Int32))] [(.int (stt - (128 : Int32))), (.long q3), (.long q2), (.long (own_upd 2 q2 q3 stt))])) rfl (by rw [hml]; rfl) (argsL := [(.long q3), (.int (stt - (128 : Int32)))]) (rest := [(.long q2), (.long (own_upd 2 q2 q3 stt))]) (lenOf own_pd63 rfl) rfl (by show 2 * 0 + _ ≤ _; exact Nat.le_of_eq rfl) (hb hby at_179) (fun _ _ => ⟨rfl, eh89, (by decide : 1 + 0 ≤ _), (by decide : 3 + 0 ≤ _)⟩)
      dsimp only [Pt.U, Pt.locs, Pt.cells, Pt.slots] at X91 l91 y91 z91 st91 hQ91
      subst l91 y91 z91
      obtain ⟨rfl, N91q, eh91⟩ := hQ91
      have N91 := Fr.app N89 N91q
      refine Good.back st91 ?_
      show Good p e below _ (T91.setTop (mkF m 182 #[.val (.long q0), .second, .val (.long q1), .second, .val (.long q2), .second, .val (.long q3), .second, .val (.int p4), .val (.int p5), .val (.int (3 : Int32)), .val (.int stt), .val (.ref b72), .val (.int (1 : Int32))] [(.long (own_moved q3 (stt - (128 : Int32)))), (.long q2), (.long (own_upd 2 q2 q3 stt))]))
      refine Good.back (fun _ k => XS.lor X91.here hx rfl (hb hby at_182) rfl k) ?_
      show Good p e below _ (T91.setTop (mkF m 183 #[.val (.long q0), .second, .val (.long q1), .second, .val (.long q2), .second, .val (.long q3), .second, .val (.int p4), .val (.int p5), .val (.int (3 : Int32)), .val (.int stt), .val (.ref b72), .val (.int (1 : Int32))] [(.long (q2 ||| (own_moved q3 (stt - (128 : Int32))))), (.long (own_upd 2 q2 q3 stt))]))
      refine Good.back (fun _ k => XS.lcmp X91.here hx rfl (hb hby at_183) rfl k) ?_
      show Good p e below _ (T91.setTop (mkF m 184 #[.val (.long q0), .second, .val (.long q1), .second, .val (.long q2), .second, .val (.long q3), .second, .val (.int p4), .val (.int p5), .val (.int (3 : Int32)), .val (.int stt), .val (.ref b72), .val (.int (1 : Int32))] [(.int (lcmpW (own_upd 2 q2 q3 stt) (q2 ||| (own_moved q3 (stt - (128 : Int32))))))]))
      refine Good.back (fun _ k => XS.ifNo X91.here hx rfl (hb hby at_184) rfl ((if0 _ _).trans (teq ((lw_eq _ _).mpr (own_law 2 stt _ _ _ hst (own_sub stt (128 : Int32) 128 rfl hst (by decide)) (by decide)) : (lcmpW (own_upd 2 q2 q3 stt) (q2 ||| (own_moved q3 (stt - (128 : Int32))))) = (0 : Int32))).2) k) ?_
      show Good p e below _ (T91.setTop (mkF m 187 #[.val (.long q0), .second, .val (.long q1), .second, .val (.long q2), .second, .val (.long q3), .second, .val (.int p4), .val (.int p5), .val (.int (3 : Int32)), .val (.int stt), .val (.ref b72), .val (.int (1 : Int32))] []))
      refine Good.back (fun _ k => XS.iconst X91.here hx rfl (hb hby at_187) k) ?_
      show Good p e below _ (T91.setTop (mkF m 188 #[.val (.long q0), .second, .val (.long q1), .second, .val (.long q2), .second, .val (.long q3), .second, .val (.int p4), .val (.int p5), .val (.int (3 : Int32)), .val (.int stt), .val (.ref b72), .val (.int (1 : Int32))] [(.int (1 : Int32))]))
      refine Good.back (fun _ k => XS.goto X91.here hx rfl (pc0 := 188) (pc' := 192) rfl (hb hby at_188) (by decide) (by decide) k) ?_
      show Good p e below _ (T91.setTop (mkF m 192 #[.val (.long q0), .second, .val (.long q1), .second, .val (.long q2), .second, .val (.long q3), .second, .val (.int p4), .val (.int p5), .val (.int (3 : Int32)), .val (.int stt), .val (.ref b72), .val (.int (1 : Int32))] [(.int (1 : Int32))]))
      refine Good.back (fun _ k => XS.istore X91.here hx rfl (hb hby at_192) rfl (l' := #[.val (.long q0), .second, .val (.long q1), .second, .val (.long q2), .second, .val (.long q3), .second, .val (.int p4), .val (.int p5), .val (.int (3 : Int32)), .val (.int stt), .val (.ref b72), .val (.int (1 : Int32))]) rfl k) ?_
      show Good p e below _ (T91.setTop (mkF m 194 #[.val (.long q0), .second, .val (.long q1), .second, .val (.long q2), .second, .val (.long q3), .second, .val (.int p4), .val (.int p5), .val (.int (3 : Int32)), .val (.int stt), .val (.ref b72), .val (.int (1 : Int32))] []))
      refine Good.back (fun _ k => XS.iload X91.here hx rfl (hb hby at_194) rfl k) ?_
      show Good p e below _ (T91.setTop (mkF m 196 #[.val (.long q0), .second, .val (.long q1), .second, .val (.long q2), .second, .val (.long q3), .second, .val (.int p4), .val (.int p5), .val (.int (3 : Int32)), .val (.int stt), .val (.ref b72), .val (.int (1 : Int32))] [(.int (1 : Int32))]))
      obtain ⟨fs92, hr92, hrun92, hended92, hW92, hsame92⟩ := X91.leave (v := some (.int (1 : Int32))) (fun h => by rw [Bd.returns] at h; cases h)
      refine Good.done (retN X91 hx (t := .boolean) Bd.returns (by simp) (hb hby at_196) hr92) hrun92 hended92 ⟨_, _, rfl, ?_, ⟨_, rfl⟩, hW92, hsame92.mono (by decide) (by decide)⟩
      show Q0 Z q0 q1 q2 q3 p4 p5 h0 n0 _ T91.heap _
      rw [eh91]
      exact ⟨rfl, N91⟩
    · refine Good.back (fun _ k => XS.ifNo X0.here hx rfl (hb hby at_12) rfl ((if0 _ _).trans (feq hc12_71).1) k) ?_
      show Good p e below _ (s₁.setTop (mkF m 15 #[.val (.long q0), .second, .val (.long q1), .second, .val (.long q2), .second, .val (.long q3), .second, .val (.int p4), .val (.int p5), .val (.int (3 : Int32)), .unset, .unset, .unset] []))
      refine Good.back (fun _ k => XS.iload X0.here hx rfl (hb hby at_15) rfl k) ?_
      show Good p e below _ (s₁.setTop (mkF m 17 #[.val (.long q0), .second, .val (.long q1), .second, .val (.long q2), .second, .val (.long q3), .second, .val (.int p4), .val (.int p5), .val (.int (3 : Int32)), .unset, .unset, .unset] [(.int p4)]))
      refine Good.back (fun _ k => XS.sipush X0.here hx rfl (hb hby at_17) k) ?_
      show Good p e below _ (s₁.setTop (mkF m 20 #[.val (.long q0), .second, .val (.long q1), .second, .val (.long q2), .second, .val (.long q3), .second, .val (.int p4), .val (.int p5), .val (.int (3 : Int32)), .unset, .unset, .unset] [(.int (255 : Int32)), (.int p4)]))
      refine Good.back (fun _ k => XS.iand X0.here hx rfl (hb hby at_20) rfl k) ?_
      show Good p e below _ (s₁.setTop (mkF m 21 #[.val (.long q0), .second, .val (.long q1), .second, .val (.long q2), .second, .val (.long q3), .second, .val (.int p4), .val (.int p5), .val (.int (3 : Int32)), .unset, .unset, .unset] [(.int (p4 &&& (255 : Int32)))]))
      refine Good.back (fun _ k => XS.goto X0.here hx rfl (pc0 := 21) (pc' := 29) rfl (hb hby at_21) (by decide) (by decide) k) ?_
      show Good p e below _ (s₁.setTop (mkF m 29 #[.val (.long q0), .second, .val (.long q1), .second, .val (.long q2), .second, .val (.long q3), .second, .val (.int p4), .val (.int p5), .val (.int (3 : Int32)), .unset, .unset, .unset] [(.int (p4 &&& (255 : Int32)))]))
      refine Good.back (fun _ k => XS.istore X0.here hx rfl (hb hby at_29) rfl (l' := #[.val (.long q0), .second, .val (.long q1), .second, .val (.long q2), .second, .val (.long q3), .second, .val (.int p4), .val (.int p5), .val (.int (3 : Int32)), .val (.int (p4 &&& (255 : Int32))), .unset, .unset]) rfl k) ?_
      show Good p e below _ (s₁.setTop (mkF m 31 #[.val (.long q0), .second, .val (.long q1), .second, .val (.long q2), .second, .val (.long q3), .second, .val (.int p4), .val (.int p5), .val (.int (3 : Int32)), .val (.int (p4 &&& (255 : Int32))), .unset, .unset] []))
      obtain ⟨stt, hstt⟩ : ∃ z, z = (p4 &&& (255 : Int32)) := ⟨_, rfl⟩
      rw [← hstt]
      have hst : 0 ≤ stt.toInt := by rw [hstt]; exact (c_and _ _ (by decide)).1
      show Good p e below _ (s₁.setTop (mkF m 31 #[.val (.long q0), .second, .val (.long q1), .second, .val (.long q2), .second, .val (.long q3), .second, .val (.int p4), .val (.int p5), .val (.int (3 : Int32)), .val (.int stt), .unset, .unset] []))
      refine Good.back (fun _ k => XS.iload X0.here hx rfl (hb hby at_31) rfl k) ?_
      show Good p e below _ (s₁.setTop (mkF m 33 #[.val (.long q0), .second, .val (.long q1), .second, .val (.long q2), .second, .val (.long q3), .second, .val (.int p4), .val (.int p5), .val (.int (3 : Int32)), .val (.int stt), .unset, .unset] [(.int (3 : Int32))]))
      obtain ⟨T93, h93, k93, X93, e93, E93, A93, st93⟩ := newP X0 hx hZ (hw _ (List.mem_of_getElem? (i := 1) rfl)) e0 (g := (mkF m 33 #[.val (.long q0), .second, .val (.long q1), .second, .val (.long q2), .second, .val (.long q3), .second, .val (.int p4), .val (.int p5), .val (.int (3 : Int32)), .val (.int stt), .unset, .unset] [(.int (3 : Int32))])) rfl (hb hby at_33) rfl (by decide) (cap := 3) (by decide) (by decide) (by decide) (by decide)
      obtain ⟨b93, g93⟩ : ∃ z, z = h0.size := ⟨_, rfl⟩
      rw [← g93] at A93 st93
      refine Good.back st93 ?_
      have g_b93 : n0 ≤ b93 := Nat.le_trans Z0 (Nat.le_of_eq g93.symm)
      have Z94 : n0 ≤ h93.size := Nat.le_trans Z0 E93.1
      have f_95 : Arv Z h93 b93 k93 .long (3 : Int32) [(.long (0 : Int64)), (.long (0 : Int64)), (.long (0 : Int64))] (.long (0 : Int64)) := (Arv.new A93 (by decide)).pad (pad_rep [] (.long (0 : Int64)) 3)
      show Good p e below _ (T93.setTop (mkF m 35 #[.val (.long q0), .second, .val (.long q1), .second, .val (.long q2), .second, .val (.long q3), .second, .val (.int p4), .val (.int p5), .val (.int (3 : Int32)), .val (.int stt), .unset, .unset] [(.ref b93)]))
      refine Good.back (fun _ k => XS.astore X93.here hx rfl (hb hby at_35) rfl rfl (l' := #[.val (.long q0), .second, .val (.long q1), .second, .val (.long q2), .second, .val (.long q3), .second, .val (.int p4), .val (.int p5), .val (.int (3 : Int32)), .val (.int stt), .val (.ref b93), .unset]) rfl k) ?_
      show Good p e below _ (T93.setTop (mkF m 37 #[.val (.long q0), .second, .val (.long q1), .second, .val (.long q2), .second, .val (.long q3), .second, .val (.int p4), .val (.int p5), .val (.int (3 : Int32)), .val (.int stt), .val (.ref b93), .unset] []))
      refine Good.back (fun _ k => XS.iload X93.here hx rfl (hb hby at_37) rfl k) ?_
      show Good p e below _ (T93.setTop (mkF m 39 #[.val (.long q0), .second, .val (.long q1), .second, .val (.long q2), .second, .val (.long q3), .second, .val (.int p4), .val (.int p5), .val (.int (3 : Int32)), .val (.int stt), .val (.ref b93), .unset] [(.int (3 : Int32))]))
      refine Good.back (fun _ k => XS.ifNo X93.here hx rfl (hb hby at_39) rfl ((if0 _ _).trans (tlt (by decide : ((0 : Int32) < (3 : Int32)))).2.2.2) k) ?_
      show Good p e below _ (T93.setTop (mkF m 42 #[.val (.long q0), .second, .val (.long q1), .second, .val (.long q2), .second, .val (.long q3), .second, .val (.int p4), .val (.int p5), .val (.int (3 : Int32)), .val (.int stt), .val (.ref b93), .unset] []))
      refine Good.back (fun _ k => XS.aload X93.here hx rfl (hb hby at_42) rfl rfl k) ?_
      show Good p e below _ (T93.setTop (mkF m 44 #[.val (.long q0), .second, .val (.long q1), .second, .val (.long q2), .second, .val (.long q3), .second, .val (.int p4), .val (.int p5), .val (.int (3 : Int32)), .val (.int stt), .val (.ref b93), .unset] [(.ref b93)]))
      refine Good.back (fun _ k => XS.iconst X93.here hx rfl (hb hby at_44) k) ?_
      show Good p e below _ (T93.setTop (mkF m 45 #[.val (.long q0), .second, .val (.long q1), .second, .val (.long q2), .second, .val (.long q3), .second, .val (.int p4), .val (.int p5), .val (.int (3 : Int32)), .val (.int stt), .val (.ref b93), .unset] [(.int (0 : Int32)), (.ref b93)]))
      refine Good.back (fun _ k => XS.lloadN X93.here hx rfl (hb hby at_45) rfl k) ?_
      show Good p e below _ (T93.setTop (mkF m 46 #[.val (.long q0), .second, .val (.long q1), .second, .val (.long q2), .second, .val (.long q3), .second, .val (.int p4), .val (.int p5), .val (.int (3 : Int32)), .val (.int stt), .val (.ref b93), .unset] [(.long q0), (.int (0 : Int32)), (.ref b93)]))
      have fc96 := f_95
      obtain ⟨cl96, Ar96, qk96, S96, N96', H96, G96⟩ := fc96
      have hin96 : ¬ ((0 : Int32) < 0 ∨ cl96.slots.size ≤ ((0 : Int32)).toNatClampNeg) := inb_of S96 ⟨by decide, by decide⟩
      obtain ⟨T96, h96, X96, e96, W96, st96⟩ := stJ X93 hx hZ e93 Ar96 (j := (0 : Int32)) hin96 (g := (mkF m 46 #[.val (.long q0), .second, .val (.long q1), .second, .val (.long q2), .second, .val (.long q3), .second, .val (.int p4), .val (.int p5), .val (.int (3 : Int32)), .val (.int stt), .val (.ref b93), .unset] [(.long q0), (.int (0 : Int32)), (.ref b93)])) rfl rfl (hb hby at_46)
      refine Good.back st96 ?_
      have f_97 : Arv Z h96 b93 k93 .long (3 : Int32) [(.long q0), (.long (0 : Int64)), (.long (0 : Int64))] (.long (0 : Int64)) := Arv.set Ar96 qk96 S96 N96' H96 G96 rfl W96 0 rfl (Nat.le_of_ble_eq_true rfl)
      have N96 := Fr.snoc X96 N0 g_b93
      have Z98 : n0 ≤ h96.size := Nat.le_trans Z94 (Keep.of_wr W96).1
      show Good p e below _ (T96.setTop (mkF m 47 #[.val (.long q0), .second, .val (.long q1), .second, .val (.long q2), .second, .val (.long q3), .second, .val (.int p4), .val (.int p5), .val (.int (3 : Int32)), .val (.int stt), .val (.ref b93), .unset] []))
      refine Good.back (fun _ k => XS.iload X96.here hx rfl (hb hby at_47) rfl k) ?_
      show Good p e below _ (T96.setTop (mkF m 49 #[.val (.long q0), .second, .val (.long q1), .second, .val (.long q2), .second, .val (.long q3), .second, .val (.int p4), .val (.int p5), .val (.int (3 : Int32)), .val (.int stt), .val (.ref b93), .unset] [(.int (3 : Int32))]))
      refine Good.back (fun _ k => XS.iconst X96.here hx rfl (hb hby at_49) k) ?_
      show Good p e below _ (T96.setTop (mkF m 50 #[.val (.long q0), .second, .val (.long q1), .second, .val (.long q2), .second, .val (.long q3), .second, .val (.int p4), .val (.int p5), .val (.int (3 : Int32)), .val (.int stt), .val (.ref b93), .unset] [(.int (1 : Int32)), (.int (3 : Int32))]))
      refine Good.back (fun _ k => XS.icmpNo X96.here hx rfl (hb hby at_50) rfl (tlt (by decide : ((1 : Int32) < (3 : Int32)))).2.2.2 k) ?_
      show Good p e below _ (T96.setTop (mkF m 53 #[.val (.long q0), .second, .val (.long q1), .second, .val (.long q2), .second, .val (.long q3), .second, .val (.int p4), .val (.int p5), .val (.int (3 : Int32)), .val (.int stt), .val (.ref b93), .unset] []))
      refine Good.back (fun _ k => XS.aload X96.here hx rfl (hb hby at_53) rfl rfl k) ?_
      show Good p e below _ (T96.setTop (mkF m 55 #[.val (.long q0), .second, .val (.long q1), .second, .val (.long q2), .second, .val (.long q3), .second, .val (.int p4), .val (.int p5), .val (.int (3 : Int32)), .val (.int stt), .val (.ref b93), .unset] [(.ref b93)]))
      refine Good.back (fun _ k => XS.iconst X96.here hx rfl (hb hby at_55) k) ?_
      show Good p e below _ (T96.setTop (mkF m 56 #[.val (.long q0), .second, .val (.long q1), .second, .val (.long q2), .second, .val (.long q3), .second, .val (.int p4), .val (.int p5), .val (.int (3 : Int32)), .val (.int stt), .val (.ref b93), .unset] [(.int (1 : Int32)), (.ref b93)]))
      refine Good.back (fun _ k => XS.lloadN X96.here hx rfl (hb hby at_56) rfl k) ?_
      show Good p e below _ (T96.setTop (mkF m 57 #[.val (.long q0), .second, .val (.long q1), .second, .val (.long q2), .second, .val (.long q3), .second, .val (.int p4), .val (.int p5), .val (.int (3 : Int32)), .val (.int stt), .val (.ref b93), .unset] [(.long q1), (.int (1 : Int32)), (.ref b93)]))
      have fc99 := f_97
      obtain ⟨cl99, Ar99, qk99, S99, N99', H99, G99⟩ := fc99
      have hin99 : ¬ ((1 : Int32) < 0 ∨ cl99.slots.size ≤ ((1 : Int32)).toNatClampNeg) := inb_of S99 ⟨by decide, by decide⟩
      obtain ⟨T99, h99, X99, e99, W99, st99⟩ := stJ X96 hx hZ e96 Ar99 (j := (1 : Int32)) hin99 (g := (mkF m 57 #[.val (.long q0), .second, .val (.long q1), .second, .val (.long q2), .second, .val (.long q3), .second, .val (.int p4), .val (.int p5), .val (.int (3 : Int32)), .val (.int stt), .val (.ref b93), .unset] [(.long q1), (.int (1 : Int32)), (.ref b93)])) rfl rfl (hb hby at_57)
      refine Good.back st99 ?_
      have f_100 : Arv Z h99 b93 k93 .long (3 : Int32) [(.long q0), (.long q1), (.long (0 : Int64))] (.long (0 : Int64)) := Arv.set Ar99 qk99 S99 N99' H99 G99 rfl W99 1 rfl (Nat.le_of_ble_eq_true rfl)
      have N99 := Fr.snoc X99 N96 g_b93
      have Z101 : n0 ≤ h99.size := Nat.le_trans Z98 (Keep.of_wr W99).1
      show Good p e below _ (T99.setTop (mkF m 58 #[.val (.long q0), .second, .val (.long q1), .second, .val (.long q2), .second, .val (.long q3), .second, .val (.int p4), .val (.int p5), .val (.int (3 : Int32)), .val (.int stt), .val (.ref b93), .unset] []))
      refine Good.back (fun _ k => XS.iload X99.here hx rfl (hb hby at_58) rfl k) ?_
      show Good p e below _ (T99.setTop (mkF m 60 #[.val (.long q0), .second, .val (.long q1), .second, .val (.long q2), .second, .val (.long q3), .second, .val (.int p4), .val (.int p5), .val (.int (3 : Int32)), .val (.int stt), .val (.ref b93), .unset] [(.int (3 : Int32))]))
      refine Good.back (fun _ k => XS.iconst X99.here hx rfl (hb hby at_60) k) ?_
      show Good p e below _ (T99.setTop (mkF m 61 #[.val (.long q0), .second, .val (.long q1), .second, .val (.long q2), .second, .val (.long q3), .second, .val (.int p4), .val (.int p5), .val (.int (3 : Int32)), .val (.int stt), .val (.ref b93), .unset] [(.int (2 : Int32)), (.int (3 : Int32))]))
      refine Good.back (fun _ k => XS.icmpNo X99.here hx rfl (hb hby at_61) rfl (tlt (by decide : ((2 : Int32) < (3 : Int32)))).2.2.2 k) ?_
      show Good p e below _ (T99.setTop (mkF m 64 #[.val (.long q0), .second, .val (.long q1), .second, .val (.long q2), .second, .val (.long q3), .second, .val (.int p4), .val (.int p5), .val (.int (3 : Int32)), .val (.int stt), .val (.ref b93), .unset] []))
      refine Good.back (fun _ k => XS.aload X99.here hx rfl (hb hby at_64) rfl rfl k) ?_
      show Good p e below _ (T99.setTop (mkF m 66 #[.val (.long q0), .second, .val (.long q1), .second, .val (.long q2), .second, .val (.long q3), .second, .val (.int p4), .val (.int p5), .val (.int (3 : Int32)), .val (.int stt), .val (.ref b93), .unset] [(.ref b93)]))
      refine Good.back (fun _ k => XS.iconst X99.here hx rfl (hb hby at_66) k) ?_
      show Good p e below _ (T99.setTop (mkF m 67 #[.val (.long q0), .second, .val (.long q1), .second, .val (.long q2), .second, .val (.long q3), .second, .val (.int p4), .val (.int p5), .val (.int (3 : Int32)), .val (.int stt), .val (.ref b93), .unset] [(.int (2 : Int32)), (.ref b93)]))
      refine Good.back (fun _ k => XS.lload X99.here hx rfl (hb hby at_67) rfl k) ?_
      show Good p e below _ (T99.setTop (mkF m 69 #[.val (.long q0), .second, .val (.long q1), .second, .val (.long q2), .second, .val (.long q3), .second, .val (.int p4), .val (.int p5), .val (.int (3 : Int32)), .val (.int stt), .val (.ref b93), .unset] [(.long q2), (.int (2 : Int32)), (.ref b93)]))
      have fc102 := f_100
      obtain ⟨cl102, Ar102, qk102, S102, N102', H102, G102⟩ := fc102
      have hin102 : ¬ ((2 : Int32) < 0 ∨ cl102.slots.size ≤ ((2 : Int32)).toNatClampNeg) := inb_of S102 ⟨by decide, by decide⟩
      obtain ⟨T102, h102, X102, e102, W102, st102⟩ := stJ X99 hx hZ e99 Ar102 (j := (2 : Int32)) hin102 (g := (mkF m 69 #[.val (.long q0), .second, .val (.long q1), .second, .val (.long q2), .second, .val (.long q3), .second, .val (.int p4), .val (.int p5), .val (.int (3 : Int32)), .val (.int stt), .val (.ref b93), .unset] [(.long q2), (.int (2 : Int32)), (.ref b93)])) rfl rfl (hb hby at_69)
      refine Good.back st102 ?_
      have f_103 : Arv Z h102 b93 k93 .long (3 : Int32) [(.long q0), (.long q1), (.long q2)] (.long (0 : Int64)) := Arv.set Ar102 qk102 S102 N102' H102 G102 rfl W102 2 rfl (Nat.le_of_ble_eq_true rfl)
      have N102 := Fr.snoc X102 N99 g_b93
      have Z104 : n0 ≤ h102.size := Nat.le_trans Z101 (Keep.of_wr W102).1
      show Good p e below _ (T102.setTop (mkF m 70 #[.val (.long q0), .second, .val (.long q1), .second, .val (.long q2), .second, .val (.long q3), .second, .val (.int p4), .val (.int p5), .val (.int (3 : Int32)), .val (.int stt), .val (.ref b93), .unset] []))
      refine Good.back (fun _ k => XS.aload X102.here hx rfl (hb hby at_70) rfl rfl k) ?_
      show Good p e below _ (T102.setTop (mkF m 72 #[.val (.long q0), .second, .val (.long q1), .second, .val (.long q2), .second, .val (.long q3), .second, .val (.int p4), .val (.int p5), .val (.int (3 : Int32)), .val (.int stt), .val (.ref b93), .unset] [(.ref b93)]))
      refine Good.back (fun _ k => XS.lload X102.here hx rfl (hb hby at_72) rfl k) ?_
      show Good p e below _ (T102.setTop (mkF m 74 #[.val (.long q0), .second, .val (.long q1), .second, .val (.long q2), .second, .val (.long q3), .second, .val (.int p4), .val (.int p5), .val (.int (3 : Int32)), .val (.int stt), .val (.ref b93), .unset] [(.long q3), (.ref b93)]))
      refine Good.back (fun _ k => XS.iload X102.here hx rfl (hb hby at_74) rfl k) ?_
      show Good p e below _ (T102.setTop (mkF m 76 #[.val (.long q0), .second, .val (.long q1), .second, .val (.long q2), .second, .val (.long q3), .second, .val (.int p4), .val (.int p5), .val (.int (3 : Int32)), .val (.int stt), .val (.ref b93), .unset] [(.int stt), (.long q3), (.ref b93)]))
      obtain ⟨_, _, ⟨T105, L105, k105, n105⟩, -, X105, ⟨Lc105, hQ105, l105, y105, z105⟩, st105⟩ := Jvm.LawKit.callS X102 hx (y := (⟨"com/example/fradno/fradno/core/CellSet", "or", "([JJI)V"⟩ : MethodName)) hown (mvT hZ (hw _ (List.mem_of_getElem? (i := 2) rfl))) (mvT hZ (hw _ (List.mem_of_getElem? (i := 3) rfl))) (mvT hZ (hw _ (List.mem_of_getElem? (i := 4) rfl))) (mvT hZ (hw _ (List.mem_of_getElem? (i := 5) rfl))) (by decide) (backOf (W := 0) (rm1_3 l Z a0 hw [] b93 q3 stt k93 q0 q1 q2 h102 n0 Z104 f_103 g_b93 (hst)) hZ (hw _ (List.mem_of_getElem? (i := 5) rfl)) (hw _ (List.mem_of_getElem? (i := 4) rfl)) (by decide) (by decide)) (g := (mkF m 76 #[.val (.long q0), .second, .val (.long q1), .second, .val (.long q2), .second, .val (.long q3), .second, .val (.int p4), .val (.int p5), .val (.int (3 : Int32)), .val (.int stt), .val (.ref b93), .unset] [(.int stt), (.long q3), (.ref b93)])) rfl (by rw [hml]; rfl) (argsL := [(.ref b93), (.long q3), (.int stt)]) (rest := []) (lenOf own_pd62 rfl) rfl (by show 2 * 0 + _ ≤ _; exact Nat.le_of_eq rfl) (hb hby at_76) (fun _ _ => ⟨rfl, e102, (by decide : 1 + 0 ≤ _), (by decide : 3 + 0 ≤ _)⟩)
      dsimp only [Pt.U, Pt.locs, Pt.cells, Pt.slots] at X105 l105 y105 z105 st105 hQ105
      subst l105 y105 z105
      obtain ⟨rfl, N105q, Kq105, o105_0⟩ := hQ105
      have N105 := Fr.app N102 N105q
      have Z106 : n0 ≤ T105.heap.size := Nat.le_trans Z104 Kq105.1
      refine Good.back st105 ?_
      show Good p e below _ (T105.setTop (mkF m 79 #[.val (.long q0), .second, .val (.long q1), .second, .val (.long q2), .second, .val (.long q3), .second, .val (.int p4), .val (.int p5), .val (.int (3 : Int32)), .val (.int stt), .val (.ref b93), .unset] []))
      refine Good.back (fun _ k => XS.iconst X105.here hx rfl (hb hby at_79) k) ?_
      show Good p e below _ (T105.setTop (mkF m 80 #[.val (.long q0), .second, .val (.long q1), .second, .val (.long q2), .second, .val (.long q3), .second, .val (.int p4), .val (.int p5), .val (.int (3 : Int32)), .val (.int stt), .val (.ref b93), .unset] [(.int (1 : Int32))]))
      refine Good.back (fun _ k => XS.istore X105.here hx rfl (hb hby at_80) rfl (l' := #[.val (.long q0), .second, .val (.long q1), .second, .val (.long q2), .second, .val (.long q3), .second, .val (.int p4), .val (.int p5), .val (.int (3 : Int32)), .val (.int stt), .val (.ref b93), .val (.int (1 : Int32))]) rfl k) ?_
      show Good p e below _ (T105.setTop (mkF m 82 #[.val (.long q0), .second, .val (.long q1), .second, .val (.long q2), .second, .val (.long q3), .second, .val (.int p4), .val (.int p5), .val (.int (3 : Int32)), .val (.int stt), .val (.ref b93), .val (.int (1 : Int32))] []))
      refine Good.back (fun _ k => XS.iload X105.here hx rfl (hb hby at_82) rfl k) ?_
      show Good p e below _ (T105.setTop (mkF m 84 #[.val (.long q0), .second, .val (.long q1), .second, .val (.long q2), .second, .val (.long q3), .second, .val (.int p4), .val (.int p5), .val (.int (3 : Int32)), .val (.int stt), .val (.ref b93), .val (.int (1 : Int32))] [(.int (3 : Int32))]))
      refine Good.back (fun _ k => XS.ifNo X105.here hx rfl (hb hby at_84) rfl ((if0 _ _).trans (tlt (by decide : ((0 : Int32) < (3 : Int32)))).2.2.2) k) ?_
      show Good p e below _ (T105.setTop (mkF m 87 #[.val (.long q0), .second, .val (.long q1), .second, .val (.long q2), .second, .val (.long q3), .second, .val (.int p4), .val (.int p5), .val (.int (3 : Int32)), .val (.int stt), .val (.ref b93), .val (.int (1 : Int32))] []))
      refine Good.back (fun _ k => XS.iload X105.here hx rfl (hb hby at_87) rfl k) ?_
      show Good p e below _ (T105.setTop (mkF m 89 #[.val (.long q0), .second, .val (.long q1), .second, .val (.long q2), .second, .val (.long q3), .second, .val (.int p4), .val (.int p5), .val (.int (3 : Int32)), .val (.int stt), .val (.ref b93), .val (.int (1 : Int32))] [(.int (1 : Int32))]))
      refine Good.back (fun _ k => XS.ifNo X105.here hx rfl (hb hby at_89) rfl ((if0 _ _).trans (feq (by decide : ¬ ((1 : Int32) = (0 : Int32)))).1) k) ?_
      show Good p e below _ (T105.setTop (mkF m 92 #[.val (.long q0), .second, .val (.long q1), .second, .val (.long q2), .second, .val (.long q3), .second, .val (.int p4), .val (.int p5), .val (.int (3 : Int32)), .val (.int stt), .val (.ref b93), .val (.int (1 : Int32))] []))
      refine Good.back (fun _ k => XS.aload X105.here hx rfl (hb hby at_92) rfl rfl k) ?_
      show Good p e below _ (T105.setTop (mkF m 94 #[.val (.long q0), .second, .val (.long q1), .second, .val (.long q2), .second, .val (.long q3), .second, .val (.int p4), .val (.int p5), .val (.int (3 : Int32)), .val (.int stt), .val (.ref b93), .val (.int (1 : Int32))] [(.ref b93)]))
      refine Good.back (fun _ k => XS.iconst X105.here hx rfl (hb hby at_94) k) ?_
      show Good p e below _ (T105.setTop (mkF m 95 #[.val (.long q0), .second, .val (.long q1), .second, .val (.long q2), .second, .val (.long q3), .second, .val (.int p4), .val (.int p5), .val (.int (3 : Int32)), .val (.int stt), .val (.ref b93), .val (.int (1 : Int32))] [(.int (0 : Int32)), (.ref b93)]))
      have fc107 := o105_0
      obtain ⟨cl107, Ar107, qk107, S107, N107', H107, G107⟩ := fc107
      have hin107 : ¬ ((0 : Int32) < 0 ∨ cl107.slots.size ≤ ((0 : Int32)).toNatClampNeg) := inb_of S107 ⟨by decide, by decide⟩
      have hat107 : cl107.slots[((0 : Int32)).toNatClampNeg]? = some (.long (own_upd 0 q0 q3 stt)) := Has.at H107 hin107 rfl
      refine Good.back (X105.laload hx (j := (0 : Int32)) (v := (.long (own_upd 0 q0 q3 stt))) (Ar107.1) (State.isArrayOf_alike hZ.alike Ar107.2.1) Ar107.2.2 hin107 hat107 (g := (mkF m 95 #[.val (.long q0), .second, .val (.long q1), .second, .val (.long q2), .second, .val (.long q3), .second, .val (.int p4), .val (.int p5), .val (.int (3 : Int32)), .val (.int stt), .val (.ref b93), .val (.int (1 : Int32))] [(.int (0 : Int32)), (.ref b93)])) rfl rfl (hb hby at_95)) ?_
      show Good p e below _ (T105.setTop (mkF m 96 #[.val (.long q0), .second, .val (.long q1), .second, .val (.long q2), .second, .val (.long q3), .second, .val (.int p4), .val (.int p5), .val (.int (3 : Int32)), .val (.int stt), .val (.ref b93), .val (.int (1 : Int32))] [(.long (own_upd 0 q0 q3 stt))]))
      refine Good.back (fun _ k => XS.lloadN X105.here hx rfl (hb hby at_96) rfl k) ?_
      show Good p e below _ (T105.setTop (mkF m 97 #[.val (.long q0), .second, .val (.long q1), .second, .val (.long q2), .second, .val (.long q3), .second, .val (.int p4), .val (.int p5), .val (.int (3 : Int32)), .val (.int stt), .val (.ref b93), .val (.int (1 : Int32))] [(.long q0), (.long (own_upd 0 q0 q3 stt))]))
      refine Good.back (fun _ k => XS.lload X105.here hx rfl (hb hby at_97) rfl k) ?_
      show Good p e below _ (T105.setTop (mkF m 99 #[.val (.long q0), .second, .val (.long q1), .second, .val (.long q2), .second, .val (.long q3), .second, .val (.int p4), .val (.int p5), .val (.int (3 : Int32)), .val (.int stt), .val (.ref b93), .val (.int (1 : Int32))] [(.long q3), (.long q0), (.long (own_upd 0 q0 q3 stt))]))
      refine Good.back (fun _ k => XS.iload X105.here hx rfl (hb hby at_99) rfl k) ?_
      show Good p e below _ (T105.setTop (mkF m 101 #[.val (.long q0), .second, .val (.long q1), .second, .val (.long q2), .second, .val (.long q3), .second, .val (.int p4), .val (.int p5), .val (.int (3 : Int32)), .val (.int stt), .val (.ref b93), .val (.int (1 : Int32))] [(.int stt), (.long q3), (.long q0), (.long (own_upd 0 q0 q3 stt))]))
      obtain ⟨_, _, ⟨T108, L108, k108, n108⟩, -, X108, ⟨Lc108, hQ108, l108, y108, z108⟩, st108⟩ := Jvm.LawKit.callS X105 hx (y := (⟨"com/example/fradno/fradno/core/CellSetOrPinLaw", "moved", "(JI)J"⟩ : MethodName)) hown (mvT hZ (hw _ (List.mem_of_getElem? (i := 6) rfl))) (mvT hZ (hw _ (List.mem_of_getElem? (i := 7) rfl))) (mvT hZ (hw _ (List.mem_of_getElem? (i := 8) rfl))) (mvT hZ (hw _ (List.mem_of_getElem? (i := 9) rfl))) (by decide) (backOf (W := 4) (rm2 l Z a0 hw [] q3 stt  T105.heap n0 Z106 ) hZ (hw _ (List.mem_of_getElem? (i := 9) rfl)) (hw _ (List.mem_of_getElem? (i := 8) rfl)) (by decide) (by decide)) (g := (mkF m 101 #[.val (.long q0), .second, .val (.long q1), .second, .val (.long q2), .second, .val (.long q3), .second, .val (.int p4), .val (.int p5), .val (.int (3 : Int32)), .val (.int stt), .val (.ref b93), .val (.int (1 : Int32))] [(.int stt), (.long q3), (.long q0), (.long (own_upd 0 q0 q3 stt))])) rfl (by rw [hml]; rfl) (argsL := [(.long q3), (.int stt)]) (rest := [(.long q0), (.long (own_upd 0 q0 q3 stt))]) (lenOf own_pd63 rfl) rfl (by show 2 * 0 + _ ≤ _; exact Nat.le_of_eq rfl) (hb hby at_101) (fun _ _ => ⟨rfl, rfl, (by decide : 1 + 0 ≤ _), (by decide : 3 + 0 ≤ _)⟩)
      dsimp only [Pt.U, Pt.locs, Pt.cells, Pt.slots] at X108 l108 y108 z108 st108 hQ108
      subst l108 y108 z108
      obtain ⟨rfl, N108q, eh108⟩ := hQ108
      have N108 := Fr.app N105 N108q
      refine Good.back st108 ?_
      show Good p e below _ (T108.setTop (mkF m 104 #[.val (.long q0), .second, .val (.long q1), .second, .val (.long q2), .second, .val (.long q3), .second, .val (.int p4), .val (.int p5), .val (.int (3 : Int32)), .val (.int stt), .val (.ref b93), .val (.int (1 : Int32))] [(.long (own_moved q3 stt)), (.long q0), (.long (own_upd 0 q0 q3 stt))]))
      refine Good.back (fun _ k => XS.lor X108.here hx rfl (hb hby at_104) rfl k) ?_
      show Good p e below _ (T108.setTop (mkF m 105 #[.val (.long q0), .second, .val (.long q1), .second, .val (.long q2), .second, .val (.long q3), .second, .val (.int p4), .val (.int p5), .val (.int (3 : Int32)), .val (.int stt), .val (.ref b93), .val (.int (1 : Int32))] [(.long (q0 ||| (own_moved q3 stt))), (.long (own_upd 0 q0 q3 stt))]))
      refine Good.back (fun _ k => XS.lcmp X108.here hx rfl (hb hby at_105) rfl k) ?_
      show Good p e below _ (T108.setTop (mkF m 106 #[.val (.long q0), .second, .val (.long q1), .second, .val (.long q2), .second, .val (.long q3), .second, .val (.int p4), .val (.int p5), .val (.int (3 : Int32)), .val (.int stt), .val (.ref b93), .val (.int (1 : Int32))] [(.int (lcmpW (own_upd 0 q0 q3 stt) (q0 ||| (own_moved q3 stt))))]))
      refine Good.back (fun _ k => XS.ifNo X108.here hx rfl (hb hby at_106) rfl ((if0 _ _).trans (teq ((lw_eq _ _).mpr (own_law 0 stt _ _ _ hst (by omega) (by decide)) : (lcmpW (own_upd 0 q0 q3 stt) (q0 ||| (own_moved q3 stt))) = (0 : Int32))).2) k) ?_
      show Good p e below _ (T108.setTop (mkF m 109 #[.val (.long q0), .second, .val (.long q1), .second, .val (.long q2), .second, .val (.long q3), .second, .val (.int p4), .val (.int p5), .val (.int (3 : Int32)), .val (.int stt), .val (.ref b93), .val (.int (1 : Int32))] []))
      refine Good.back (fun _ k => XS.iconst X108.here hx rfl (hb hby at_109) k) ?_
      show Good p e below _ (T108.setTop (mkF m 110 #[.val (.long q0), .second, .val (.long q1), .second, .val (.long q2), .second, .val (.long q3), .second, .val (.int p4), .val (.int p5), .val (.int (3 : Int32)), .val (.int stt), .val (.ref b93), .val (.int (1 : Int32))] [(.int (1 : Int32))]))
      refine Good.back (fun _ k => XS.goto X108.here hx rfl (pc0 := 110) (pc' := 114) rfl (hb hby at_110) (by decide) (by decide) k) ?_
      show Good p e below _ (T108.setTop (mkF m 114 #[.val (.long q0), .second, .val (.long q1), .second, .val (.long q2), .second, .val (.long q3), .second, .val (.int p4), .val (.int p5), .val (.int (3 : Int32)), .val (.int stt), .val (.ref b93), .val (.int (1 : Int32))] [(.int (1 : Int32))]))
      refine Good.back (fun _ k => XS.istore X108.here hx rfl (hb hby at_114) rfl (l' := #[.val (.long q0), .second, .val (.long q1), .second, .val (.long q2), .second, .val (.long q3), .second, .val (.int p4), .val (.int p5), .val (.int (3 : Int32)), .val (.int stt), .val (.ref b93), .val (.int (1 : Int32))]) rfl k) ?_
      show Good p e below _ (T108.setTop (mkF m 116 #[.val (.long q0), .second, .val (.long q1), .second, .val (.long q2), .second, .val (.long q3), .second, .val (.int p4), .val (.int p5), .val (.int (3 : Int32)), .val (.int stt), .val (.ref b93), .val (.int (1 : Int32))] []))
      refine Good.back (fun _ k => XS.iload X108.here hx rfl (hb hby at_116) rfl k) ?_
      show Good p e below _ (T108.setTop (mkF m 118 #[.val (.long q0), .second, .val (.long q1), .second, .val (.long q2), .second, .val (.long q3), .second, .val (.int p4), .val (.int p5), .val (.int (3 : Int32)), .val (.int stt), .val (.ref b93), .val (.int (1 : Int32))] [(.int (3 : Int32))]))
      refine Good.back (fun _ k => XS.iconst X108.here hx rfl (hb hby at_118) k) ?_
      show Good p e below _ (T108.setTop (mkF m 119 #[.val (.long q0), .second, .val (.long q1), .second, .val (.long q2), .second, .val (.long q3), .second, .val (.int p4), .val (.int p5), .val (.int (3 : Int32)), .val (.int stt), .val (.ref b93), .val (.int (1 : Int32))] [(.int (1 : Int32)), (.int (3 : Int32))]))
      refine Good.back (fun _ k => XS.icmpNo X108.here hx rfl (hb hby at_119) rfl (tlt (by decide : ((1 : Int32) < (3 : Int32)))).2.2.2 k) ?_
      show Good p e below _ (T108.setTop (mkF m 122 #[.val (.long q0), .second, .val (.long q1), .second, .val (.long q2), .second, .val (.long q3), .second, .val (.int p4), .val (.int p5), .val (.int (3 : Int32)), .val (.int stt), .val (.ref b93), .val (.int (1 : Int32))] []))
      refine Good.back (fun _ k => XS.iload X108.here hx rfl (hb hby at_122) rfl k) ?_
      show Good p e below _ (T108.setTop (mkF m 124 #[.val (.long q0), .second, .val (.long q1), .second, .val (.long q2), .second, .val (.long q3), .second, .val (.int p4), .val (.int p5), .val (.int (3 : Int32)), .val (.int stt), .val (.ref b93), .val (.int (1 : Int32))] [(.int (1 : Int32))]))
      refine Good.back (fun _ k => XS.ifNo X108.here hx rfl (hb hby at_124) rfl ((if0 _ _).trans (feq (by decide : ¬ ((1 : Int32) = (0 : Int32)))).1) k) ?_
      show Good p e below _ (T108.setTop (mkF m 127 #[.val (.long q0), .second, .val (.long q1), .second, .val (.long q2), .second, .val (.long q3), .second, .val (.int p4), .val (.int p5), .val (.int (3 : Int32)), .val (.int stt), .val (.ref b93), .val (.int (1 : Int32))] []))
      refine Good.back (fun _ k => XS.aload X108.here hx rfl (hb hby at_127) rfl rfl k) ?_
      show Good p e below _ (T108.setTop (mkF m 129 #[.val (.long q0), .second, .val (.long q1), .second, .val (.long q2), .second, .val (.long q3), .second, .val (.int p4), .val (.int p5), .val (.int (3 : Int32)), .val (.int stt), .val (.ref b93), .val (.int (1 : Int32))] [(.ref b93)]))
      refine Good.back (fun _ k => XS.iconst X108.here hx rfl (hb hby at_129) k) ?_
      show Good p e below _ (T108.setTop (mkF m 130 #[.val (.long q0), .second, .val (.long q1), .second, .val (.long q2), .second, .val (.long q3), .second, .val (.int p4), .val (.int p5), .val (.int (3 : Int32)), .val (.int stt), .val (.ref b93), .val (.int (1 : Int32))] [(.int (1 : Int32)), (.ref b93)]))
      have fc109 := o105_0
      obtain ⟨cl109, Ar109, qk109, S109, N109', H109, G109⟩ := fc109
      have hin109 : ¬ ((1 : Int32) < 0 ∨ cl109.slots.size ≤ ((1 : Int32)).toNatClampNeg) := inb_of S109 ⟨by decide, by decide⟩
      have hat109 : cl109.slots[((1 : Int32)).toNatClampNeg]? = some (.long (own_upd 1 q1 q3 stt)) := Has.at H109 hin109 rfl
      refine Good.back (X108.laload hx (j := (1 : Int32)) (v := (.long (own_upd 1 q1 q3 stt))) (by rw [eh108]; exact Ar109.1) (State.isArrayOf_alike hZ.alike Ar109.2.1) Ar109.2.2 hin109 hat109 (g := (mkF m 130 #[.val (.long q0), .second, .val (.long q1), .second, .val (.long q2), .second, .val (.long q3), .second, .val (.int p4), .val (.int p5), .val (.int (3 : Int32)), .val (.int stt), .val (.ref b93), .val (.int (1 : Int32))] [(.int (1 : Int32)), (.ref b93)])) rfl rfl (hb hby at_130)) ?_
      show Good p e below _ (T108.setTop (mkF m 131 #[.val (.long q0), .second, .val (.long q1), .second, .val (.long q2), .second, .val (.long q3), .second, .val (.int p4), .val (.int p5), .val (.int (3 : Int32)), .val (.int stt), .val (.ref b93), .val (.int (1 : Int32))] [(.long (own_upd 1 q1 q3 stt))]))
      refine Good.back (fun _ k => XS.lloadN X108.here hx rfl (hb hby at_131) rfl k) ?_
      show Good p e below _ (T108.setTop (mkF m 132 #[.val (.long q0), .second, .val (.long q1), .second, .val (.long q2), .second, .val (.long q3), .second, .val (.int p4), .val (.int p5), .val (.int (3 : Int32)), .val (.int stt), .val (.ref b93), .val (.int (1 : Int32))] [(.long q1), (.long (own_upd 1 q1 q3 stt))]))
      refine Good.back (fun _ k => XS.lload X108.here hx rfl (hb hby at_132) rfl k) ?_
      show Good p e below _ (T108.setTop (mkF m 134 #[.val (.long q0), .second, .val (.long q1), .second, .val (.long q2), .second, .val (.long q3), .second, .val (.int p4), .val (.int p5), .val (.int (3 : Int32)), .val (.int stt), .val (.ref b93), .val (.int (1 : Int32))] [(.long q3), (.long q1), (.long (own_upd 1 q1 q3 stt))]))
      refine Good.back (fun _ k => XS.iload X108.here hx rfl (hb hby at_134) rfl k) ?_
      show Good p e below _ (T108.setTop (mkF m 136 #[.val (.long q0), .second, .val (.long q1), .second, .val (.long q2), .second, .val (.long q3), .second, .val (.int p4), .val (.int p5), .val (.int (3 : Int32)), .val (.int stt), .val (.ref b93), .val (.int (1 : Int32))] [(.int stt), (.long q3), (.long q1), (.long (own_upd 1 q1 q3 stt))]))
      refine Good.back (fun _ k => XS.bipush X108.here hx rfl (hb hby at_136) k) ?_
      show Good p e below _ (T108.setTop (mkF m 138 #[.val (.long q0), .second, .val (.long q1), .second, .val (.long q2), .second, .val (.long q3), .second, .val (.int p4), .val (.int p5), .val (.int (3 : Int32)), .val (.int stt), .val (.ref b93), .val (.int (1 : Int32))] [(.int (64 : Int32)), (.int stt), (.long q3), (.long q1), (.long (own_upd 1 q1 q3 stt))]))
      refine Good.back (fun _ k => XS.isub X108.here hx rfl (hb hby at_138) rfl k) ?_
      show Good p e below _ (T108.setTop (mkF m 139 #[.val (.long q0), .second, .val (.long q1), .second, .val (.long q2), .second, .val (.long q3), .second, .val (.int p4), .val (.int p5), .val (.int (3 : Int32)), .val (.int stt), .val (.ref b93), .val (.int (1 : Int32))] [(.int (stt - (64 : Int32))), (.long q3), (.long q1), (.long (own_upd 1 q1 q3 stt))]))
      obtain ⟨_, _, ⟨T110, L110, k110, n110⟩, -, X110, ⟨Lc110, hQ110, l110, y110, z110⟩, st110⟩ := Jvm.LawKit.callS X108 hx (y := (⟨"com/example/fradno/fradno/core/CellSetOrPinLaw", "moved", "(JI)J"⟩ : MethodName)) hown (mvT hZ (hw _ (List.mem_of_getElem? (i := 6) rfl))) (mvT hZ (hw _ (List.mem_of_getElem? (i := 7) rfl))) (mvT hZ (hw _ (List.mem_of_getElem? (i := 8) rfl))) (mvT hZ (hw _ (List.mem_of_getElem? (i := 9) rfl))) (by decide) (backOf (W := 4) (rm2 l Z a0 hw [] q3 (stt - (64 : Int32))  T105.heap n0 Z106 ) hZ (hw _ (List.mem_of_getElem? (i := 9) rfl)) (hw _ (List.mem_of_getElem? (i := 8) rfl)) (by decide) (by decide)) (g := (mkF m 139 #[.val (.long q0), .second, .val (.long q1), .second, .val (.long q2), .second, .val (.long q3), .second, .val (.int p4), .val (.int p5), .val (.int (3 : Int32)), .val (.int stt), .val (.ref b93), .val (.int (1 : Int32))] [(.int (stt - (64 : Int32))), (.long q3), (.long q1), (.long (own_upd 1 q1 q3 stt))])) rfl (by rw [hml]; rfl) (argsL := [(.long q3), (.int (stt - (64 : Int32)))]) (rest := [(.long q1), (.long (own_upd 1 q1 q3 stt))]) (lenOf own_pd63 rfl) rfl (by show 2 * 0 + _ ≤ _; exact Nat.le_of_eq rfl) (hb hby at_139) (fun _ _ => ⟨rfl, eh108, (by decide : 1 + 0 ≤ _), (by decide : 3 + 0 ≤ _)⟩)
      dsimp only [Pt.U, Pt.locs, Pt.cells, Pt.slots] at X110 l110 y110 z110 st110 hQ110
      subst l110 y110 z110
      obtain ⟨rfl, N110q, eh110⟩ := hQ110
      have N110 := Fr.app N108 N110q
      refine Good.back st110 ?_
      show Good p e below _ (T110.setTop (mkF m 142 #[.val (.long q0), .second, .val (.long q1), .second, .val (.long q2), .second, .val (.long q3), .second, .val (.int p4), .val (.int p5), .val (.int (3 : Int32)), .val (.int stt), .val (.ref b93), .val (.int (1 : Int32))] [(.long (own_moved q3 (stt - (64 : Int32)))), (.long q1), (.long (own_upd 1 q1 q3 stt))]))
      refine Good.back (fun _ k => XS.lor X110.here hx rfl (hb hby at_142) rfl k) ?_
      show Good p e below _ (T110.setTop (mkF m 143 #[.val (.long q0), .second, .val (.long q1), .second, .val (.long q2), .second, .val (.long q3), .second, .val (.int p4), .val (.int p5), .val (.int (3 : Int32)), .val (.int stt), .val (.ref b93), .val (.int (1 : Int32))] [(.long (q1 ||| (own_moved q3 (stt - (64 : Int32))))), (.long (own_upd 1 q1 q3 stt))]))
      refine Good.back (fun _ k => XS.lcmp X110.here hx rfl (hb hby at_143) rfl k) ?_
      show Good p e below _ (T110.setTop (mkF m 144 #[.val (.long q0), .second, .val (.long q1), .second, .val (.long q2), .second, .val (.long q3), .second, .val (.int p4), .val (.int p5), .val (.int (3 : Int32)), .val (.int stt), .val (.ref b93), .val (.int (1 : Int32))] [(.int (lcmpW (own_upd 1 q1 q3 stt) (q1 ||| (own_moved q3 (stt - (64 : Int32))))))]))
      refine Good.back (fun _ k => XS.ifNo X110.here hx rfl (hb hby at_144) rfl ((if0 _ _).trans (teq ((lw_eq _ _).mpr (own_law 1 stt _ _ _ hst (own_sub stt (64 : Int32) 64 rfl hst (by decide)) (by decide)) : (lcmpW (own_upd 1 q1 q3 stt) (q1 ||| (own_moved q3 (stt - (64 : Int32))))) = (0 : Int32))).2) k) ?_
      show Good p e below _ (T110.setTop (mkF m 147 #[.val (.long q0), .second, .val (.long q1), .second, .val (.long q2), .second, .val (.long q3), .second, .val (.int p4), .val (.int p5), .val (.int (3 : Int32)), .val (.int stt), .val (.ref b93), .val (.int (1 : Int32))] []))
      refine Good.back (fun _ k => XS.iconst X110.here hx rfl (hb hby at_147) k) ?_
      show Good p e below _ (T110.setTop (mkF m 148 #[.val (.long q0), .second, .val (.long q1), .second, .val (.long q2), .second, .val (.long q3), .second, .val (.int p4), .val (.int p5), .val (.int (3 : Int32)), .val (.int stt), .val (.ref b93), .val (.int (1 : Int32))] [(.int (1 : Int32))]))
      refine Good.back (fun _ k => XS.goto X110.here hx rfl (pc0 := 148) (pc' := 152) rfl (hb hby at_148) (by decide) (by decide) k) ?_
      show Good p e below _ (T110.setTop (mkF m 152 #[.val (.long q0), .second, .val (.long q1), .second, .val (.long q2), .second, .val (.long q3), .second, .val (.int p4), .val (.int p5), .val (.int (3 : Int32)), .val (.int stt), .val (.ref b93), .val (.int (1 : Int32))] [(.int (1 : Int32))]))
      refine Good.back (fun _ k => XS.istore X110.here hx rfl (hb hby at_152) rfl (l' := #[.val (.long q0), .second, .val (.long q1), .second, .val (.long q2), .second, .val (.long q3), .second, .val (.int p4), .val (.int p5), .val (.int (3 : Int32)), .val (.int stt), .val (.ref b93), .val (.int (1 : Int32))]) rfl k) ?_
      show Good p e below _ (T110.setTop (mkF m 154 #[.val (.long q0), .second, .val (.long q1), .second, .val (.long q2), .second, .val (.long q3), .second, .val (.int p4), .val (.int p5), .val (.int (3 : Int32)), .val (.int stt), .val (.ref b93), .val (.int (1 : Int32))] []))
      refine Good.back (fun _ k => XS.iload X110.here hx rfl (hb hby at_154) rfl k) ?_
      show Good p e below _ (T110.setTop (mkF m 156 #[.val (.long q0), .second, .val (.long q1), .second, .val (.long q2), .second, .val (.long q3), .second, .val (.int p4), .val (.int p5), .val (.int (3 : Int32)), .val (.int stt), .val (.ref b93), .val (.int (1 : Int32))] [(.int (3 : Int32))]))
      refine Good.back (fun _ k => XS.iconst X110.here hx rfl (hb hby at_156) k) ?_
      show Good p e below _ (T110.setTop (mkF m 157 #[.val (.long q0), .second, .val (.long q1), .second, .val (.long q2), .second, .val (.long q3), .second, .val (.int p4), .val (.int p5), .val (.int (3 : Int32)), .val (.int stt), .val (.ref b93), .val (.int (1 : Int32))] [(.int (2 : Int32)), (.int (3 : Int32))]))
      refine Good.back (fun _ k => XS.icmpNo X110.here hx rfl (hb hby at_157) rfl (tlt (by decide : ((2 : Int32) < (3 : Int32)))).2.2.2 k) ?_
      show Good p e below _ (T110.setTop (mkF m 160 #[.val (.long q0), .second, .val (.long q1), .second, .val (.long q2), .second, .val (.long q3), .second, .val (.int p4), .val (.int p5), .val (.int (3 : Int32)), .val (.int stt), .val (.ref b93), .val (.int (1 : Int32))] []))
      refine Good.back (fun _ k => XS.iload X110.here hx rfl (hb hby at_160) rfl k) ?_
      show Good p e below _ (T110.setTop (mkF m 162 #[.val (.long q0), .second, .val (.long q1), .second, .val (.long q2), .second, .val (.long q3), .second, .val (.int p4), .val (.int p5), .val (.int (3 : Int32)), .val (.int stt), .val (.ref b93), .val (.int (1 : Int32))] [(.int (1 : Int32))]))
      refine Good.back (fun _ k => XS.ifNo X110.here hx rfl (hb hby at_162) rfl ((if0 _ _).trans (feq (by decide : ¬ ((1 : Int32) = (0 : Int32)))).1) k) ?_
      show Good p e below _ (T110.setTop (mkF m 165 #[.val (.long q0), .second, .val (.long q1), .second, .val (.long q2), .second, .val (.long q3), .second, .val (.int p4), .val (.int p5), .val (.int (3 : Int32)), .val (.int stt), .val (.ref b93), .val (.int (1 : Int32))] []))
      refine Good.back (fun _ k => XS.aload X110.here hx rfl (hb hby at_165) rfl rfl k) ?_
      show Good p e below _ (T110.setTop (mkF m 167 #[.val (.long q0), .second, .val (.long q1), .second, .val (.long q2), .second, .val (.long q3), .second, .val (.int p4), .val (.int p5), .val (.int (3 : Int32)), .val (.int stt), .val (.ref b93), .val (.int (1 : Int32))] [(.ref b93)]))
      refine Good.back (fun _ k => XS.iconst X110.here hx rfl (hb hby at_167) k) ?_
      show Good p e below _ (T110.setTop (mkF m 168 #[.val (.long q0), .second, .val (.long q1), .second, .val (.long q2), .second, .val (.long q3), .second, .val (.int p4), .val (.int p5), .val (.int (3 : Int32)), .val (.int stt), .val (.ref b93), .val (.int (1 : Int32))] [(.int (2 : Int32)), (.ref b93)]))
      have fc111 := o105_0
      obtain ⟨cl111, Ar111, qk111, S111, N111', H111, G111⟩ := fc111
      have hin111 : ¬ ((2 : Int32) < 0 ∨ cl111.slots.size ≤ ((2 : Int32)).toNatClampNeg) := inb_of S111 ⟨by decide, by decide⟩
      have hat111 : cl111.slots[((2 : Int32)).toNatClampNeg]? = some (.long (own_upd 2 q2 q3 stt)) := Has.at H111 hin111 rfl
      refine Good.back (X110.laload hx (j := (2 : Int32)) (v := (.long (own_upd 2 q2 q3 stt))) (by rw [eh110]; exact Ar111.1) (State.isArrayOf_alike hZ.alike Ar111.2.1) Ar111.2.2 hin111 hat111 (g := (mkF m 168 #[.val (.long q0), .second, .val (.long q1), .second, .val (.long q2), .second, .val (.long q3), .second, .val (.int p4), .val (.int p5), .val (.int (3 : Int32)), .val (.int stt), .val (.ref b93), .val (.int (1 : Int32))] [(.int (2 : Int32)), (.ref b93)])) rfl rfl (hb hby at_168)) ?_
      show Good p e below _ (T110.setTop (mkF m 169 #[.val (.long q0), .second, .val (.long q1), .second, .val (.long q2), .second, .val (.long q3), .second, .val (.int p4), .val (.int p5), .val (.int (3 : Int32)), .val (.int stt), .val (.ref b93), .val (.int (1 : Int32))] [(.long (own_upd 2 q2 q3 stt))]))
      refine Good.back (fun _ k => XS.lload X110.here hx rfl (hb hby at_169) rfl k) ?_
      show Good p e below _ (T110.setTop (mkF m 171 #[.val (.long q0), .second, .val (.long q1), .second, .val (.long q2), .second, .val (.long q3), .second, .val (.int p4), .val (.int p5), .val (.int (3 : Int32)), .val (.int stt), .val (.ref b93), .val (.int (1 : Int32))] [(.long q2), (.long (own_upd 2 q2 q3 stt))]))
      refine Good.back (fun _ k => XS.lload X110.here hx rfl (hb hby at_171) rfl k) ?_
      show Good p e below _ (T110.setTop (mkF m 173 #[.val (.long q0), .second, .val (.long q1), .second, .val (.long q2), .second, .val (.long q3), .second, .val (.int p4), .val (.int p5), .val (.int (3 : Int32)), .val (.int stt), .val (.ref b93), .val (.int (1 : Int32))] [(.long q3), (.long q2), (.long (own_upd 2 q2 q3 stt))]))
      refine Good.back (fun _ k => XS.iload X110.here hx rfl (hb hby at_173) rfl k) ?_
      show Good p e below _ (T110.setTop (mkF m 175 #[.val (.long q0), .second, .val (.long q1), .second, .val (.long q2), .second, .val (.long q3), .second, .val (.int p4), .val (.int p5), .val (.int (3 : Int32)), .val (.int stt), .val (.ref b93), .val (.int (1 : Int32))] [(.int stt), (.long q3), (.long q2), (.long (own_upd 2 q2 q3 stt))]))
      refine Good.back (fun _ k => XS.sipush X110.here hx rfl (hb hby at_175) k) ?_
      show Good p e below _ (T110.setTop (mkF m 178 #[.val (.long q0), .second, .val (.long q1), .second, .val (.long q2), .second, .val (.long q3), .second, .val (.int p4), .val (.int p5), .val (.int (3 : Int32)), .val (.int stt), .val (.ref b93), .val (.int (1 : Int32))] [(.int (128 : Int32)), (.int stt), (.long q3), (.long q2), (.long (own_upd 2 q2 q3 stt))]))
      refine Good.back (fun _ k => XS.isub X110.here hx rfl (hb hby at_178) rfl k) ?_
      show Good p e below _ (T110.setTop (mkF m 179 #[.val (.long q0), .second, .val (.long q1), .second, .val (.long q2), .second, .val (.long q3), .second, .val (.int p4), .val (.int p5), .val (.int (3 : Int32)), .val (.int stt), .val (.ref b93), .val (.int (1 : Int32))] [(.int (stt - (128 : Int32))), (.long q3), (.long q2), (.long (own_upd 2 q2 q3 stt))]))
      obtain ⟨_, _, ⟨T112, L112, k112, n112⟩, -, X112, ⟨Lc112, hQ112, l112, y112, z112⟩, st112⟩ := Jvm.LawKit.callS X110 hx (y := (⟨"com/example/fradno/fradno/core/CellSetOrPinLaw", "moved", "(JI)J"⟩ : MethodName)) hown (mvT hZ (hw _ (List.mem_of_getElem? (i := 6) rfl))) (mvT hZ (hw _ (List.mem_of_getElem? (i := 7) rfl))) (mvT hZ (hw _ (List.mem_of_getElem? (i := 8) rfl))) (mvT hZ (hw _ (List.mem_of_getElem? (i := 9) rfl))) (by decide) (backOf (W := 4) (rm2 l Z a0 hw [] q3 (stt - (128 : Int32))  T105.heap n0 Z106 ) hZ (hw _ (List.mem_of_getElem? (i := 9) rfl)) (hw _ (List.mem_of_getElem? (i := 8) rfl)) (by decide) (by decide)) (g := (mkF m 179 #[.val (.long q0), .second, .val (.long q1), .second, .val (.long q2), .second, .val (.long q3), .second, .val (.int p4), .val (.int p5), .val (.int (3 : Int32)), .val (.int stt), .val (.ref b93), .val (.int (1 : Int32))] [(.int (stt - (128 : Int32))), (.long q3), (.long q2), (.long (own_upd 2 q2 q3 stt))])) rfl (by rw [hml]; rfl) (argsL := [(.long q3), (.int (stt - (128 : Int32)))]) (rest := [(.long q2), (.long (own_upd 2 q2 q3 stt))]) (lenOf own_pd63 rfl) rfl (by show 2 * 0 + _ ≤ _; exact Nat.le_of_eq rfl) (hb hby at_179) (fun _ _ => ⟨rfl, eh110, (by decide : 1 + 0 ≤ _), (by decide : 3 + 0 ≤ _)⟩)
      dsimp only [Pt.U, Pt.locs, Pt.cells, Pt.slots] at X112 l112 y112 z112 st112 hQ112
      subst l112 y112 z112
      obtain ⟨rfl, N112q, eh112⟩ := hQ112
      have N112 := Fr.app N110 N112q
      refine Good.back st112 ?_
      show Good p e below _ (T112.setTop (mkF m 182 #[.val (.long q0), .second, .val (.long q1), .second, .val (.long q2), .second, .val (.long q3), .second, .val (.int p4), .val (.int p5), .val (.int (3 : Int32)), .val (.int stt), .val (.ref b93), .val (.int (1 : Int32))] [(.long (own_moved q3 (stt - (128 : Int32)))), (.long q2), (.long (own_upd 2 q2 q3 stt))]))
      refine Good.back (fun _ k => XS.lor X112.here hx rfl (hb hby at_182) rfl k) ?_
      show Good p e below _ (T112.setTop (mkF m 183 #[.val (.long q0), .second, .val (.long q1), .second, .val (.long q2), .second, .val (.long q3), .second, .val (.int p4), .val (.int p5), .val (.int (3 : Int32)), .val (.int stt), .val (.ref b93), .val (.int (1 : Int32))] [(.long (q2 ||| (own_moved q3 (stt - (128 : Int32))))), (.long (own_upd 2 q2 q3 stt))]))
      refine Good.back (fun _ k => XS.lcmp X112.here hx rfl (hb hby at_183) rfl k) ?_
      show Good p e below _ (T112.setTop (mkF m 184 #[.val (.long q0), .second, .val (.long q1), .second, .val (.long q2), .second, .val (.long q3), .second, .val (.int p4), .val (.int p5), .val (.int (3 : Int32)), .val (.int stt), .val (.ref b93), .val (.int (1 : Int32))] [(.int (lcmpW (own_upd 2 q2 q3 stt) (q2 ||| (own_moved q3 (stt - (128 : Int32))))))]))
      refine Good.back (fun _ k => XS.ifNo X112.here hx rfl (hb hby at_184) rfl ((if0 _ _).trans (teq ((lw_eq _ _).mpr (own_law 2 stt _ _ _ hst (own_sub stt (128 : Int32) 128 rfl hst (by decide)) (by decide)) : (lcmpW (own_upd 2 q2 q3 stt) (q2 ||| (own_moved q3 (stt - (128 : Int32))))) = (0 : Int32))).2) k) ?_
      show Good p e below _ (T112.setTop (mkF m 187 #[.val (.long q0), .second, .val (.long q1), .second, .val (.long q2), .second, .val (.long q3), .second, .val (.int p4), .val (.int p5), .val (.int (3 : Int32)), .val (.int stt), .val (.ref b93), .val (.int (1 : Int32))] []))
      refine Good.back (fun _ k => XS.iconst X112.here hx rfl (hb hby at_187) k) ?_
      show Good p e below _ (T112.setTop (mkF m 188 #[.val (.long q0), .second, .val (.long q1), .second, .val (.long q2), .second, .val (.long q3), .second, .val (.int p4), .val (.int p5), .val (.int (3 : Int32)), .val (.int stt), .val (.ref b93), .val (.int (1 : Int32))] [(.int (1 : Int32))]))
      refine Good.back (fun _ k => XS.goto X112.here hx rfl (pc0 := 188) (pc' := 192) rfl (hb hby at_188) (by decide) (by decide) k) ?_
      show Good p e below _ (T112.setTop (mkF m 192 #[.val (.long q0), .second, .val (.long q1), .second, .val (.long q2), .second, .val (.long q3), .second, .val (.int p4), .val (.int p5), .val (.int (3 : Int32)), .val (.int stt), .val (.ref b93), .val (.int (1 : Int32))] [(.int (1 : Int32))]))
      refine Good.back (fun _ k => XS.istore X112.here hx rfl (hb hby at_192) rfl (l' := #[.val (.long q0), .second, .val (.long q1), .second, .val (.long q2), .second, .val (.long q3), .second, .val (.int p4), .val (.int p5), .val (.int (3 : Int32)), .val (.int stt), .val (.ref b93), .val (.int (1 : Int32))]) rfl k) ?_
      show Good p e below _ (T112.setTop (mkF m 194 #[.val (.long q0), .second, .val (.long q1), .second, .val (.long q2), .second, .val (.long q3), .second, .val (.int p4), .val (.int p5), .val (.int (3 : Int32)), .val (.int stt), .val (.ref b93), .val (.int (1 : Int32))] []))
      refine Good.back (fun _ k => XS.iload X112.here hx rfl (hb hby at_194) rfl k) ?_
      show Good p e below _ (T112.setTop (mkF m 196 #[.val (.long q0), .second, .val (.long q1), .second, .val (.long q2), .second, .val (.long q3), .second, .val (.int p4), .val (.int p5), .val (.int (3 : Int32)), .val (.int stt), .val (.ref b93), .val (.int (1 : Int32))] [(.int (1 : Int32))]))
      obtain ⟨fs113, hr113, hrun113, hended113, hW113, hsame113⟩ := X112.leave (v := some (.int (1 : Int32))) (fun h => by rw [Bd.returns] at h; cases h)
      refine Good.done (retN X112 hx (t := .boolean) Bd.returns (by simp) (hb hby at_196) hr113) hrun113 hended113 ⟨_, _, rfl, ?_, ⟨_, rfl⟩, hW113, hsame113.mono (by decide) (by decide)⟩
      show Q0 Z q0 q1 q2 q3 p4 p5 h0 n0 _ T112.heap _
      rw [eh112]
      exact ⟨rfl, N112⟩
set_option maxRecDepth 65536 in
set_option maxHeartbeats 40000000 in
theorem comes_1 {Post : Tables → Env → Array Value → State → Outcome → State → Prop} (hpost : ∀ tb e args s v u, (limb_1_1.after args s (.returned v) u = true ∧ limb_1_2.after args s (.returned v) u = true ∧ True) → FrameEnd s (.returned v) u (Jvm.fieldLocs frame_1_writes args s ++ Jvm.arrayLocs frame_1_arrays args s ++ Jvm.staticLocs frame_1_statics s) 16 128 → Post tb e args s (.returned v) u) :
    ArmFor flags0 classFile x code maxLocals ret World_1 tables_1 room_1 Calls_1 rest_1 Pre_1 Post := by
  intro l hfl _ _ p e ha hc hk s m args below hf hA hF happ hP
  obtain ⟨hcalls, hrest, hpre⟩ := hP
  obtain ⟨-, -, -, hnamed, -, -, -, hat⟩ := (Spec.applies_iff hf).mp happ
  obtain ⟨hg, hn⟩ := and_e (Cond.before_iff.mp (show (Jvm.Cond.and given_1 narrow_1).before args s = true from hpre))
  obtain ⟨g1, g2⟩ := and_e hg
  obtain ⟨g3, g4⟩ := and_e g2
  obtain ⟨g5, g6⟩ := and_e g4
  obtain ⟨g7, g8⟩ := and_e g6
  obtain ⟨g9, g10⟩ := and_e g8
  obtain ⟨g11, g12⟩ := and_e g10
  obtain ⟨w0, w1, w2, w3, w4, w5, rfl⟩ : ∃ w0 w1 w2 w3 w4 w5 : Value, args = #[w0, w1, w2, w3, w4, w5] := by
    have hs : args.size = 6 := by simpa [Cond.value, given_1] using g1
    obtain ⟨L⟩ := args
    match L, hs with
    | [w0, w1, w2, w3, w4, w5], _ => exact ⟨w0, w1, w2, w3, w4, w5, rfl⟩
  have hw := fun d (hd : d ∈ tables_1) => atoms_spec (ws := Jvm.Cond.code x code maxLocals ret :: tables_1) hat d (List.mem_cons_of_mem _ hd)
  have hfit : Fit s := fun {y c} hc i hi => by
    obtain ⟨ha, rfl⟩ := Array.getElem?_eq_some_iff.mp hc
    have q := List.all_eq_true.mp ((Array.all_eq_true_iff_forall_mem.mp hF) _ (Array.getElem_mem ha)) i (List.mem_range.mpr hi)
    simpa [Array.getElem?_eq_getElem hi] using q
  obtain ⟨i0, ei0⟩ := isL_v g3
  obtain rfl : w0 = (.long i0) := Option.some.inj ei0
  obtain ⟨i1, ei1⟩ := isL_v g5
  obtain rfl : w1 = (.long i1) := Option.some.inj ei1
  obtain ⟨i2, ei2⟩ := isL_v g7
  obtain rfl : w2 = (.long i2) := Option.some.inj ei2
  obtain ⟨i3, ei3⟩ := isL_v g9
  obtain rfl : w3 = (.long i3) := Option.some.inj ei3
  obtain ⟨i4, ei4⟩ := is_v g11
  obtain rfl : w4 = (.int i4) := Option.some.inj ei4
  obtain ⟨i5, ei5⟩ := is_v g12
  obtain rfl : w5 = (.int i5) := Option.some.inj ei5
  obtain ⟨n, o, h1, h2, h3, _, L, rfl, ⟨rfl, N⟩, hq⟩ := rm0 l s _ hw tables_1 i0 i1 i2 i3 i4 i5  s.heap s.heap.size (Nat.le_refl _)  p e ha hc hk s m _ below hf ((Spec.applies_iff_loose hf).mp happ).1 ⟨rfl, State.Warmed39.refl s, rfl⟩ trivial
  refine ⟨n, _, h1, h2, h3, hpost _ _ _ _ _ _ ⟨Cond.after_iff.mpr rfl, Cond.after_iff.mpr (eq_i res_at (Term.int_eval (1)) rfl), trivial⟩ ⟨hq.1, hq.2.1, (hq.2.2.sift fun y hy => Or.inr (N y hy)).mono (by decide) (by decide)⟩⟩
theorem main_1_1 : Claimed_1_1 := comes_1 fun _ _ _ _ _ _ h hF => ⟨h.1, hF⟩
theorem main_1_2 : Claimed_1_2 := comes_1 fun _ _ _ _ _ _ h hF => ⟨h.2.1, hF⟩
end Jvm.Pilot.@@N@@
namespace Jvm.Pilot.@@N@@
open Jvm Jvm.ClassFile Sem Op Lib Jvm.Free Jvm.Stand Jvm.Pilot.@@N@@.Jvm.D
/-! MADE BY PROGRAM (witnessworld.py) out of the Statement's table words and the real class files: 11 classes; the members and pool entries that the words name. The judged class is class 1, her method 1. -/
namespace start1
open Jvm.ClassFile
def u (s : String) : CpInfo := .utf8 (stringToUtf16 s)
/-- a pool by its gaps: so many unusable entries, then the entry; so many at the end -/
def gap : Nat → List CpInfo → List CpInfo
  | 0, r => r
  | n + 1, r => .unusable :: gap n r
def poolList (es : List (Nat × CpInfo)) (last : Nat) : List CpInfo := es.foldr (fun e r => gap e.1 (e.2 :: r)) (gap last [])
def pool (es : List (Nat × CpInfo)) (last : Nat) : Array CpInfo := ⟨poolList es last⟩
def fileOf (pool : Array CpInfo) (this : Nat) (attrs : Array Attribute := #[]) (ms : Array MethodInfo := #[]) (fl : Nat := 33) (sup : Nat := 0) (ifs : Array Nat := #[]) (fds : Array FieldInfo := #[]) : ClassFile where
  minorVersion := 0
  majorVersion := 65
  constantPool := pool
  accessFlags := fl
  thisClass := this
  superClass := sup
  interfaces := ifs
  fields := fds
  methods := ms
  attributes := attrs
def plain (name : String) (sup : Option ClassId) : Class where
  name := name
  kind := .ordinary
  loader := none
  accessFlags := 33
  super := sup
  interfaces := #[]
  cf := none
  fields := #[]
  methods := #[]
  instanceTypes := #[]
  staticTypes := #[]
  resolved := #[]
  callSites := []
  init := .initialized
  statics := none
  mirror := none

def pool0 : Array CpInfo := pool [(5, u "<init>"), (0, u "()V"), (1, .class_ 10), (1, u "java/lang/Object")] 113

def k0m0 : Method := { name := "<init>", desc := "()V", sig := { parameters := [], returnType := none }, accessFlags := 1, code := none }
/-- java/lang/Object -/
def k0 : Class := { plain "java/lang/Object" none with
  accessFlags := 33
  interfaces := #[]
  cf := some (fileOf pool0 8 #[] #[{ accessFlags := 1, nameIndex := 5, descriptorIndex := 6, attributes := #[] }] 33 0 #[] #[])
  fields := #[]
  methods := #[k0m0]
  instanceTypes := #[]
  staticTypes := #[]
  resolved := Array.replicate 124 none
  statics := none }

def pool1 : Array CpInfo := pool [(2, .class_ 4), (1, u "java/lang/Object"), (0, u "<init>"), (0, u "()V"), (0, .integer 2147483647), (0, .methodref 9 10), (0, .class_ 11), (0, .nameAndType 12 13), (0, u "com/example/fradno/fradno/core/CellSet"), (0, u "or"), (0, u "([JJI)V"), (0, .methodref 15 16), (0, .class_ 17), (0, .nameAndType 18 19), (0, u "com/example/fradno/fradno/core/CellSetOrPinLaw"), (0, u "moved"), (0, u "(JI)J"), (2, u "law"), (0, u "(JJJJII)Z")] 5

def k1m0 : Method := { name := "<init>", desc := "()V", sig := { parameters := [], returnType := none }, accessFlags := 1, code := none }
def k1c1 : Code := { maxStack := 8, maxLocals := 14, code := code, exceptionTable := #[], attributes := #[] }
def k1m1 : Method := { name := "law", desc := "(JJJJII)Z", sig := { parameters := [.long, .long, .long, .long, .int, .int], returnType := some .boolean }, accessFlags := 9, code := some k1c1 }
def k1c2 : Code := { maxStack := 3, maxLocals := 3, code := method_3_code, exceptionTable := #[], attributes := #[] }
def k1m2 : Method := { name := "moved", desc := "(JI)J", sig := { parameters := [.long, .int], returnType := some .long }, accessFlags := 10, code := some k1c2 }
/-- com/example/fradno/fradno/core/CellSetOrPinLaw -/
def k1 : Class := { plain "com/example/fradno/fradno/core/CellSetOrPinLaw" (some 0) with
  accessFlags := 49
  interfaces := #[]
  cf := some (fileOf pool1 15 #[] #[{ accessFlags := 1, nameIndex := 5, descriptorIndex := 6, attributes := #[] }, { accessFlags := 9, nameIndex := 22, descriptorIndex := 23, attributes := #[] }, { accessFlags := 10, nameIndex := 18, descriptorIndex := 19, attributes := #[] }] 49 2 #[] #[])
  fields := #[]
  methods := #[k1m0, k1m1, k1m2]
  instanceTypes := #[]
  staticTypes := #[]
  resolved := Array.replicate 29 none
  statics := none }

def pool2 : Array CpInfo := pool [(2, .class_ 4), (1, u "java/lang/Object"), (3, .class_ 10), (1, u "com/example/fradno/fradno/core/CellSet"), (0, u "bits"), (0, u "[J"), (2, u "before"), (0, u "[I"), (8, u "cells"), (5, u "or"), (0, u "([JJI)V")] 28

def k2c0 : Code := { maxStack := 9, maxLocals := 5, code := prog_35_method_7_code, exceptionTable := #[], attributes := #[] }
def k2m0 : Method := { name := "or", desc := "([JJI)V", sig := { parameters := [(.array .long), .long, .int], returnType := none }, accessFlags := 8, code := some k2c0 }
/-- com/example/fradno/fradno/core/CellSet -/
def k2 : Class := { plain "com/example/fradno/fradno/core/CellSet" (some 0) with
  accessFlags := 48
  interfaces := #[]
  cf := some (fileOf pool2 8 #[] #[{ accessFlags := 8, nameIndex := 31, descriptorIndex := 32, attributes := #[] }] 48 2 #[] #[{ accessFlags := 18, nameIndex := 11, descriptorIndex := 12, attributes := #[] }, { accessFlags := 18, nameIndex := 15, descriptorIndex := 16, attributes := #[] }, { accessFlags := 18, nameIndex := 25, descriptorIndex := 16, attributes := #[] }])
  fields := #[{ name := "bits", type := (.array .long), accessFlags := 18, slot := 0, constantValue := 0 }, { name := "before", type := (.array .int), accessFlags := 18, slot := 1, constantValue := 0 }, { name := "cells", type := (.array .int), accessFlags := 18, slot := 2, constantValue := 0 }]
  methods := #[k2m0]
  instanceTypes := #[(.array .long), (.array .int), (.array .int)]
  staticTypes := #[]
  resolved := Array.replicate 61 none
  statics := none }

def pool3 : Array CpInfo := pool [(1, u "java/lang/Cloneable"), (0, .class_ 1), (0, u "java/lang/Object"), (0, .class_ 3)] 3

/-- java/lang/Cloneable -/
def k3 : Class := { plain "java/lang/Cloneable" (some 0) with
  accessFlags := 1537
  interfaces := #[]
  cf := some (fileOf pool3 2 #[] #[] 1537 4 #[] #[])
  fields := #[]
  methods := #[]
  instanceTypes := #[]
  staticTypes := #[]
  resolved := Array.replicate 8 none
  statics := none }

def pool4 : Array CpInfo := pool [(1, u "java/io/Serializable"), (0, .class_ 1), (0, u "java/lang/Object"), (0, .class_ 3)] 3

/-- java/io/Serializable -/
def k4 : Class := { plain "java/io/Serializable" (some 0) with
  accessFlags := 1537
  interfaces := #[]
  cf := some (fileOf pool4 2 #[] #[] 1537 4 #[] #[])
  fields := #[]
  methods := #[]
  instanceTypes := #[]
  staticTypes := #[]
  resolved := Array.replicate 8 none
  statics := none }

/-- the primitive byte -/
def k5 : Class := { plain "byte" none with kind := .primitive 'B', accessFlags := 0x411 }
/-- [B -/
def k6 : Class := { plain "[B" (some 0) with kind := .array 5 .byte, interfaces := #[3, 4], accessFlags := 1041 }

/-- the primitive int -/
def k7 : Class := { plain "int" none with kind := .primitive 'I', accessFlags := 0x411 }
/-- [I -/
def k8 : Class := { plain "[I" (some 0) with kind := .array 7 .int, interfaces := #[3, 4], accessFlags := 1041 }

/-- the primitive long -/
def k9 : Class := { plain "long" none with kind := .primitive 'J', accessFlags := 0x411 }
/-- [J -/
def k10 : Class := { plain "[J" (some 0) with kind := .array 9 .long, interfaces := #[3, 4], accessFlags := 1041 }

def heap : Heap := #[]
def classes : Array Class := #[k0, k1, k2, k3, k4, k5, k6, k7, k8, k9, k10]
def interned : List (Array UInt16 × Addr) := []
def slotsUsed : Nat := 0
def theMethod : MethodId := ⟨1, 1⟩
def args0 : Array Value := #[.long 5, .long 6, .long 7, .long 9, .int 3, .int 7]
def aboutOver (below : List Frame) : State where
  vm := { classes := classes, interned := interned.toArray }
  heap := heap
  slotsUsed := slotsUsed
  threads := #[{ frames := .invoking theMethod args0 :: below }]
def below0 : List Frame := [.native { method := ⟨0, 0⟩, args := #[] }]
def about1 : State := aboutOver below0
def p0 : Program := .bare "" "" ""
def e0 : Env := launch0.env 0 0 0
theorem w_frames : about1.frames = Frame.invoking theMethod args0 :: below0 := rfl
set_option maxRecDepth 65536 in
theorem w_args : argsFit about1.vm theMethod args0 = true := by decide +kernel
set_option maxRecDepth 65536 in
theorem w_heap : heapFits about1 = true := by decide +kernel
set_option maxRecDepth 65536 in
theorem w_runnable : about1.curStatus? = some .runnable := by decide +kernel
set_option maxRecDepth 65536 in
theorem w_alone : about1.alone = true := by decide +kernel
set_option maxRecDepth 65536 in
theorem w_named : about1.methodNamed? x = some theMethod := by decide +kernel
set_option maxRecDepth 65536 in
theorem w_hears : about1.hears theMethod below0 = true := by decide +kernel
set_option maxRecDepth 65536 in
theorem w_ripe : about1.ripe theMethod args0 below0 = true := by decide +kernel
theorem w_running : about1.status = .running := rfl
set_option maxRecDepth 65536 in
theorem w_room : about1.hasRoom e0.platform room_1 = true :=
  launch0.hasRoom_least _ room_1 (by decide +kernel) (by decide +kernel) (by decide +kernel) (by decide +kernel) (by decide +kernel) (by decide +kernel)
theorem allAtoms_all (ts : List Jvm.Cond) (a : Array Jvm.Value) (st : Jvm.State) : (allAtoms ts).before a st = ts.all (fun c => c.before a st) := by
  induction ts with
  | nil => rfl
  | cons c t ih =>
    show (Jvm.Cond.and c (allAtoms t)).before a st = _
    rw [Jvm.Cond.before_and, ih, List.all_cons]
def words1 : List Jvm.Cond := Jvm.Cond.code x code maxLocals ret :: tables_1
/-- a 'code' word, met by the world's own term for the bytes: nothing is compared byte by byte -/
theorem code_word {y : MethodName} {bytes : ByteArray} {mx : Nat} {rt : Option FieldType} {a : Array Value} {s : State} {m : MethodId} {meth : Method} {c : Code} (h1 : s.methodNamed? y = some m) (h2 : s.vm.method? m = some meth) (h3 : meth.code = some c) (h4 : c.code = bytes)
    (h5 : (c.maxLocals == mx && c.exceptionTable.isEmpty && decide (c.maxStack ≤ mostOperands) && decide (meth.sig.returnType = rt) && !meth.locks && decide (parseMethodDescriptor y.desc = some meth.sig)) = true) : (Jvm.Cond.code y bytes mx rt).before a s = true := by
  simp only [Bool.and_eq_true, beq_iff_eq, Bool.not_eq_true', decide_eq_true_eq] at h5
  obtain ⟨⟨⟨⟨⟨g1, g2⟩, g3⟩, g4⟩, g5⟩, g6⟩ := h5
  simp [Cond.before, Cond.holds, Cond.value, h1, h2, h3, h4, g1, g2, g3, g4, g5, g6]
def isCode : Jvm.Cond → Bool
  | .code _ _ _ _ => true
  | _ => false
theorem all_split {L : List Jvm.Cond} {P : Jvm.Cond → Bool} (h1 : L.all (fun c => isCode c || P c) = true) (h2 : ∀ c ∈ L.filter isCode, P c = true) : L.all P = true := by
  refine List.all_eq_true.mpr fun c hc => ?_
  have h := List.all_eq_true.mp h1 c hc
  rcases Bool.eq_false_or_eq_true (isCode c) with hi | hi
  · exact h2 c (List.mem_filter.mpr ⟨hc, hi⟩)
  · simpa [hi] using h
set_option maxRecDepth 65536 in
theorem w_c0 : (Jvm.Cond.code x code maxLocals ret).before args0 about1 = true := code_word (m := ⟨1, 1⟩) (meth := k1m1) (c := k1c1) (by decide +kernel) rfl rfl rfl (by decide +kernel)
set_option maxRecDepth 65536 in
theorem w_c1 : (Jvm.Cond.code ({ cls := "com/example/fradno/fradno/core/CellSet", name := "or", desc := "([JJI)V" } : Jvm.MethodName) prog_35_method_7_code (5 : Nat) (Option.none : Option Jvm.ClassFile.FieldType)).before args0 about1 = true := code_word (m := ⟨2, 0⟩) (meth := k2m0) (c := k2c0) (by decide +kernel) rfl rfl rfl (by decide +kernel)
set_option maxRecDepth 65536 in
theorem w_c2 : (Jvm.Cond.code ({ cls := "com/example/fradno/fradno/core/CellSetOrPinLaw", name := "moved", desc := "(JI)J" } : Jvm.MethodName) method_3_code (3 : Nat) (Option.some Jvm.ClassFile.FieldType.long)).before args0 about1 = true := code_word (m := ⟨1, 2⟩) (meth := k1m2) (c := k1c2) (by decide +kernel) rfl rfl rfl (by decide +kernel)
def codes1 : List Jvm.Cond := [Jvm.Cond.code x code maxLocals ret, Jvm.Cond.code ({ cls := "com/example/fradno/fradno/core/CellSet", name := "or", desc := "([JJI)V" } : Jvm.MethodName) prog_35_method_7_code (5 : Nat) (Option.none : Option Jvm.ClassFile.FieldType), Jvm.Cond.code ({ cls := "com/example/fradno/fradno/core/CellSetOrPinLaw", name := "moved", desc := "(JI)J" } : Jvm.MethodName) method_3_code (3 : Nat) (Option.some Jvm.ClassFile.FieldType.long)]
set_option maxRecDepth 65536 in
theorem codes_eq : words1.filter isCode = codes1 := rfl
theorem w_codes : ∀ c ∈ words1.filter isCode, c.before args0 about1 = true := by
  rw [codes_eq]
  intro c hc
  simp only [codes1, List.mem_cons, List.not_mem_nil, or_false] at hc
  rcases hc with rfl | rfl | rfl
  · exact w_c0
  · exact w_c1
  · exact w_c2
set_option maxRecDepth 65536 in
theorem w_t1 : words1.all (fun c => isCode c || c.before args0 about1) = true := by decide +kernel
theorem w_tables : (allAtoms (Jvm.Cond.code x code maxLocals ret :: tables_1)).before args0 about1 = true := by
  rw [allAtoms_all]
  show words1.all (fun c => c.before args0 about1) = true
  refine all_split ?_ w_codes
  rw [w_t1]
set_option maxRecDepth 65536 in
theorem w_case : (Jvm.Cond.and given_1 narrow_1).before args0 about1 = true := by decide +kernel
theorem w_applies : (headSpec (Jvm.Cond.code x code maxLocals ret :: tables_1) room_1).applies x e0.platform about1 = true :=
  (Spec.applies_iff w_frames).mpr ⟨w_running, w_runnable, w_alone, w_named, w_hears, w_ripe, w_room, w_tables⟩
theorem atStart : AtStart classFile x code maxLocals ret World_1 tables_1 room_1 Calls_1 rest_1 Pre_1 launch0 p0 e0 about1 theMethod args0 below0 :=
  ⟨lists_1, trivial, launch0.admits_env _ _ _, launch0.least_env, fairChoices_fair.cas, fairChoices_fair.clock, w_frames, w_args, w_heap, w_applies, trivial, trivial, w_case⟩
end start1
theorem witness_1 : WitnessClaimed_1 := ⟨start1.p0, start1.e0, start1.about1, start1.theMethod, start1.args0, start1.below0, start1.atStart⟩
end Jvm.Pilot.@@N@@
