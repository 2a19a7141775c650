import JvmDerived
import JvmDerived.Pilot.@@N@@Statement
import JvmDerived.Pilot.@@N@@Code
set_option linter.unusedVariables false
set_option linter.unusedSimpArgs false
namespace Jvm.RoadKit
open Sem ClassFile Op Lib Jvm.Stand Jvm.Free Jvm.LawKit
section New
variable {p : Program} {l : Launch} {e : Env} {R : Room} {s : State} {m : MethodId} {args : Array Value} {below : List Frame} {meth : Method} {c : Code} {T : State} {locs : List Loc} {cells slots : Nat}
theorem retI (X : Stand p l e R s m args below meth c T locs cells slots) (hx : p.tables.exec = Jvm.exec) {pc : Nat} {Ls : Array Slot} {z : Int32} {rest : List Value} (hret : meth.sig.returnType = some .int) (hd : decode c.code pc = .ok (.ireturn, 1)) {fs : List Frame}
    (hl : ∀ (f : JFrame) (acts : List Action), f.method = m → f.locked = none → f.entered = [] → (doReturn e (T.setTop f) acts (some (.int z))).1 = T.setFrames fs) : Steps p.tables e below (T.setTop (mkF m pc Ls (.int z :: rest))) (T.setFrames fs) := by
  have hm' : T.vm.method? m = some meth := X.method'
  have hn : narrow .int (.int z) = .int z := rfl
  show Steps p.tables e below (T.setTop { method := m, pc := pc, locals := Ls, stack := _ :: rest, locked := none }) _
  jvm_step X.here [X.here.top, hx, hd, hm', hret, hn]
  first | (intro acts; rw [hl _ acts rfl rfl rfl]) | rw [hl _ _ rfl rfl rfl]
  exact Steps.refl _
end New
/-- from this state a run goes on to an end that meets K -/
def Good (p : Program) (e : Env) (below : List Frame) (K : Outcome → State → Prop) (S : State) : Prop := ∃ s₂ o, Steps p.tables e below S s₂ ∧ s₂.status = .running ∧ Ended s₂ below o ∧ K o s₂
theorem Good.back {p : Program} {e : Env} {below : List Frame} {K : Outcome → State → Prop} {S S' : State} (h : ∀ t, Steps p.tables e below S' t → Steps p.tables e below S t) (g : Good p e below K S') : Good p e below K S := by
  obtain ⟨t, o, h1, h2⟩ := g
  exact ⟨t, o, h t h1, h2⟩
theorem Good.done {p : Program} {e : Env} {below : List Frame} {K : Outcome → State → Prop} {S t : State} {o : Outcome} (h1 : Steps p.tables e below S t) (h2 : t.status = .running) (h3 : Ended t below o) (h4 : K o t) : Good p e below K S := ⟨t, o, h1, h2, h3, h4⟩
end Jvm.RoadKit
namespace Jvm.Pilot.@@N@@
open Jvm Jvm.ClassFile Sem Op Lib Jvm.Free Jvm.Stand Jvm.LawKit Jvm.RoadKit Bundle Jvm.Pilot.@@N@@.Jvm.D
abbrev own_has (s : Int64) (q : Int32) : Prop := ¬ (((s.toUInt64 >>> (q &&& 0x3f).toInt64.toUInt64).toInt64) &&& (1 : Int64)) = 0
def own_nb (s : Int64) : Int64 := (((((s <<< ((1 : Int32) &&& 0x3f).toInt64) &&& (-72340172838076674 : Int64)) ||| ((((s.toUInt64 >>> ((1 : Int32) &&& 0x3f).toInt64.toUInt64).toInt64)) &&& (9187201950435737471 : Int64))) ||| (s <<< ((8 : Int32) &&& 0x3f).toInt64)) ||| ((s.toUInt64 >>> ((8 : Int32) &&& 0x3f).toInt64.toUInt64).toInt64))
theorem own_x (s : BitVec 64) (k : Nat) (h64 : k < 64) : s >>> (BitVec.ofNat 64 k % 64#64) = s >>> k := by
  have h : BitVec.ofNat 64 k % 64#64 = BitVec.ofNat 64 k := by
    apply BitVec.eq_of_toNat_eq
    rw [BitVec.toNat_umod, BitVec.toNat_ofNat, BitVec.toNat_ofNat, show (64 % 2 ^ 64 : Nat) = 64 from rfl]
    omega
  rw [h, BitVec.ushiftRight_eq', BitVec.toNat_ofNat, Nat.mod_eq_of_lt (by omega)]
theorem own_hasb (s : Int64) (q : Int32) (k : Nat) (hk : q.toInt = k) (h64 : k < 64) : own_has s q ↔ s.toBitVec.getLsbD k = true := by
  have hq : q.toBitVec.toNat % 64 = k := by
    have h1 : q.toInt = q.toBitVec.toInt := rfl
    rw [h1, BitVec.toInt_eq_toNat_cond] at hk
    have h2 := q.toBitVec.isLt
    split at hk <;> omega
  have h := (sm64 q k hq).1
  unfold own_has
  have e : (((s.toUInt64 >>> (q &&& 0x3f).toInt64.toUInt64).toInt64) &&& (1 : Int64)).toBitVec = (s.toBitVec >>> k) &&& 1#64 := by
    show ((s.toBitVec >>> ((q &&& 0x3f).toInt64.toBitVec % 64#64)) &&& 1#64) = _
    rw [h, own_x _ _ h64]
  rw [← Int64.toBitVec_inj, e]
  have e2 : (s.toBitVec >>> k) &&& 1#64 = BitVec.setWidth 64 (BitVec.ofBool (s.toBitVec.getLsbD k)) := by
    apply BitVec.eq_of_getLsbD_eq
    intro i hi
    rw [BitVec.getLsbD_and, BitVec.getLsbD_ushiftRight]
    by_cases hi0 : i = 0
    · subst hi0; simp
    · have : (1#64).getLsbD i = false := by
        revert hi0; revert i; decide +kernel
      rw [this]; simp [BitVec.getLsbD_setWidth, BitVec.getLsbD_ofBool, hi0]
  rw [e2]
  cases s.toBitVec.getLsbD k <;> decide
theorem own_mFE : ∀ t, t < 64 → (Int64.toBitVec (-72340172838076674)).getLsbD t = decide (0 < t % 8) := by decide +kernel
theorem own_m7F : ∀ t, t < 64 → (Int64.toBitVec 9187201950435737471).getLsbD t = decide (t % 8 < 7) := by decide +kernel
theorem own_nbb (s : Int64) (t : Nat) (ht : t < 64) : (own_nb s).toBitVec.getLsbD t = ((decide (0 < t % 8) && s.toBitVec.getLsbD (t - 1)) || (decide (t % 8 < 7) && s.toBitVec.getLsbD (t + 1)) || (decide (8 ≤ t) && s.toBitVec.getLsbD (t - 8)) || s.toBitVec.getLsbD (t + 8)) := by
  have e : (own_nb s).toBitVec = ((((s.toBitVec <<< 1) &&& Int64.toBitVec (-72340172838076674)) ||| ((s.toBitVec >>> 1) &&& Int64.toBitVec 9187201950435737471)) ||| (s.toBitVec <<< 8)) ||| (s.toBitVec >>> 8) := rfl
  rw [e]
  simp only [BitVec.getLsbD_or, BitVec.getLsbD_and, BitVec.getLsbD_shiftLeft, BitVec.getLsbD_ushiftRight, own_mFE t ht, own_m7F t ht, ht, decide_true, Bool.true_and]
  rw [Nat.add_comm 1 t, Nat.add_comm 8 t]
  by_cases h1 : 0 < t % 8
  · have : ¬ t < 1 := by omega
    by_cases h8 : t < 8
    · have : ¬ 8 ≤ t := by omega
      simp [h1, *, Bool.and_comm]
    · have : 8 ≤ t := by omega
      simp [h1, *, Bool.and_comm]
  · by_cases h8 : t < 8
    · have : ¬ 8 ≤ t := by omega
      simp [h1, *, Bool.and_comm]
    · have : 8 ≤ t := by omega
      simp [h1, *, Bool.and_comm]
theorem own_t (p : Int32) : 0 ≤ (p &&& 63).toInt ∧ (p &&& 63).toInt < 64 := by have h := c_and p 63 (by decide); exact ⟨h.1, by have := h.2; have k : (63 : Int32).toInt = 63 := rfl; omega⟩
theorem own_law (s : Int64) (t : Int32) (h0 : 0 ≤ t.toInt) (h1 : t.toInt < 64) : own_has (own_nb s) t ↔ ((0 < t % 8 ∧ own_has s (t - 1)) ∨ (t % 8 < 7 ∧ own_has s (t + 1)) ∨ (0 < t / 8 ∧ own_has s (t - 8)) ∨ (t / 8 < 7 ∧ own_has s (t + 8))) := by
  obtain ⟨k, hk⟩ : ∃ k : Nat, t.toInt = k := ⟨t.toInt.toNat, by omega⟩
  have hr : (t % 8).toInt = t.toInt % 8 := (c_irem t 8 8 rfl).1 h0
  have hd : (t / 8).toInt = t.toInt / 8 := (c_idiv t 8 8 rfl (by decide)).1 h0
  have i0 : (0 : Int32).toInt = 0 := rfl
  have i7 : (7 : Int32).toInt = 7 := rfl
  have i1 : (1 : Int32).toInt = 1 := rfl
  have i8 : (8 : Int32).toInt = 8 := rfl
  have s1 : 1 ≤ k → (t - 1).toInt = (k - 1 : Nat) := fun _ => by have := c_isub t 1; have := rng32 (t - 1); omega
  have s8 : 8 ≤ k → (t - 8).toInt = (k - 8 : Nat) := fun _ => by have := c_isub t 8; have := rng32 (t - 8); omega
  have a1 : (t + 1).toInt = (k + 1 : Nat) := by have := c_iadd t 1; have := rng32 (t + 1); omega
  have a8 : (t + 8).toInt = (k + 8 : Nat) := by have := c_iadd t 8; have := rng32 (t + 8); omega
  rw [own_hasb _ t k hk (by omega), own_nbb s k (by omega)]
  simp only [Bool.or_eq_true, Bool.and_eq_true, decide_eq_true_eq, Int32.lt_iff_toInt_lt, hr, hd, i0, i7, or_assoc]
  have e1 : (0 < k % 8 ∧ s.toBitVec.getLsbD (k - 1) = true) ↔ (0 < t.toInt % 8 ∧ own_has s (t - 1)) := by
    constructor
    · rintro ⟨q, r⟩; exact ⟨by omega, (own_hasb s (t - 1) (k - 1) (s1 (by omega)) (by omega)).mpr r⟩
    · rintro ⟨q, r⟩; exact ⟨by omega, (own_hasb s (t - 1) (k - 1) (s1 (by omega)) (by omega)).mp r⟩
  have e2 : (k % 8 < 7 ∧ s.toBitVec.getLsbD (k + 1) = true) ↔ (t.toInt % 8 < 7 ∧ own_has s (t + 1)) := by
    constructor
    · rintro ⟨q, r⟩; exact ⟨by omega, (own_hasb s (t + 1) (k + 1) a1 (by omega)).mpr r⟩
    · rintro ⟨q, r⟩; exact ⟨by omega, (own_hasb s (t + 1) (k + 1) a1 (by omega)).mp r⟩
  have e3 : (8 ≤ k ∧ s.toBitVec.getLsbD (k - 8) = true) ↔ (0 < t.toInt / 8 ∧ own_has s (t - 8)) := by
    constructor
    · rintro ⟨q, r⟩; exact ⟨by omega, (own_hasb s (t - 8) (k - 8) (s8 (by omega)) (by omega)).mpr r⟩
    · rintro ⟨q, r⟩; exact ⟨by omega, (own_hasb s (t - 8) (k - 8) (s8 (by omega)) (by omega)).mp r⟩
  have e4 : (s.toBitVec.getLsbD (k + 8) = true) ↔ (t.toInt / 8 < 7 ∧ own_has s (t + 8)) := by
    constructor
    · intro r
      have hlt : k + 8 < 64 := by
        apply Classical.byContradiction
        intro hge
        rw [BitVec.getLsbD_of_ge _ _ (by omega)] at r
        cases r
      exact ⟨by omega, (own_hasb s (t + 8) (k + 8) a8 hlt).mpr r⟩
    · rintro ⟨q, r⟩; exact (own_hasb s (t + 8) (k + 8) a8 (by omega)).mp r
  rw [e1, e2, e3, e4]
theorem own_pn0 : plainName "com/example/trinode/trinode/troll/BoardNeighboursPinLaw" = true := by first | (simp [plainName, overriddenIn]; done) | decide +kernel
theorem own_d1_0 : decode method_3_code 0 = .ok (.lload_n 0, 1) := by decide +kernel
theorem own_d1_1 : decode method_3_code 1 = .ok (.iload_n 2, 1) := by decide +kernel
theorem own_d1_2 : decode method_3_code 2 = .ok (.lushr, 1) := by decide +kernel
theorem own_d1_3 : decode method_3_code 3 = .ok (.lconst 1, 1) := by decide +kernel
theorem own_d1_4 : decode method_3_code 4 = .ok (.land, 1) := by decide +kernel
theorem own_d1_5 : decode method_3_code 5 = .ok (.lconst 0, 1) := by decide +kernel
theorem own_d1_6 : decode method_3_code 6 = .ok (.lcmp, 1) := by decide +kernel
theorem own_d1_7 : decode method_3_code 7 = .ok (.ifCond .eq 7, 3) := by decide +kernel
theorem own_d1_10 : decode method_3_code 10 = .ok (.iconst 1, 1) := by decide +kernel
theorem own_d1_11 : decode method_3_code 11 = .ok (.goto 4, 3) := by decide +kernel
theorem own_d1_14 : decode method_3_code 14 = .ok (.iconst 0, 1) := by decide +kernel
theorem own_d1_15 : decode method_3_code 15 = .ok (.ireturn, 1) := by decide +kernel
theorem own_ef_1 (m : MethodId) (x0 : Int64) (x1 : Int32) : entryFrame m #[(.long x0), (.int x1)] 3 = mkF m 0 #[.val (.long x0), .second, .val (.int x1)] [] := by first | (simp [entryFrame, mkF, argsToLocals, Value.category]; done) | rfl
def Q1 (Z : State) (q0 : Int64) (p1 : Int32) (h0 : Heap) (n0 : Nat) (v : Option Value) (h : Heap) (L : List Loc) : Prop := v = some (.int (if own_has q0 p1 then (1 : Int32) else (0 : Int32))) ∧ Fr n0 L ∧ h = h0
set_option maxRecDepth 65536 in
set_option maxHeartbeats 40000000 in
theorem rm1 (l : Launch) (Z : State) (a0 : Array Value) (hw : ∀ d ∈ tables_1, d.before a0 Z = true) (ws : List Jvm.Cond) (q0 : Int64) (p1 : Int32) (h0 : Heap) (n0 : Nat) (Z0 : n0 ≤ h0.size)  :
    MetFree l (⟨"com/example/trinode/trinode/troll/BoardNeighboursPinLaw", "has", "(JI)Z"⟩ : MethodName) (head1 (Jvm.Cond.code (⟨"com/example/trinode/trinode/troll/BoardNeighboursPinLaw", "has", "(JI)Z"⟩ : MethodName) method_3_code 3 (some .boolean) :: ws) ({ frames := 0, cells := 0, slots := 0, locals := 0 } : Room)) (fun a U => a = #[(.long q0), (.int p1)] ∧ Z.Warmed39 U.vm ∧ U.heap = h0) (fun _ _ _ _ _ => True) (fun _ U o U' => ∃ v L, o = .returned v ∧ Q1 Z q0 p1 h0 n0 v U'.heap L ∧ FrameEnd U o U' L ({ frames := 0, cells := 0, slots := 0, locals := 0 } : Room).cells ({ frames := 0, cells := 0, slots := 0, locals := 0 } : Room).slots) := by
  refine MetFree.of_bodySF (plainFor_of_name own_pn0) hisR ?_
  intro p e s m args below meth c s₁ Bd hml0 hP hK
  obtain ⟨rfl, hZ, hh⟩ := hP
  have hx := Bd.exec
  have hby := Bd.bytes
  have hml : c.maxLocals = 3 := hml0
  have hown : s.vm.findClass "com/example/trinode/trinode/troll/BoardNeighboursPinLaw" = some m.cls := findClass_of_methodNamed Bd.named
  have hnm := (name_of_methodNamed Bd.named Bd.method).1
  have X0 : Stand p l e ({ frames := 0, cells := 0, slots := 0, locals := 0 } : Room) s m #[(.long q0), (.int p1)] below meth c s₁ [] 0 0 := Stand.of_body Bd
  have e0 : s₁.heap = h0 := by rw [← hh, Bd.state]; rfl
  have N0 := Fr.nil n0
  show Good p e below (fun o U' => ∃ v L, o = .returned v ∧ Q1 Z q0 p1 h0 n0 v U'.heap L ∧ FrameEnd s o U' L ({ frames := 0, cells := 0, slots := 0, locals := 0 } : Room).cells ({ frames := 0, cells := 0, slots := 0, locals := 0 } : Room).slots) _
  refine Good.back (S' := s₁.setTop (mkF m 0 #[.val (.long q0), .second, .val (.int p1)] [])) (fun t k => castTop (own_ef_1 m q0 p1) k) ?_
  show Good p e below _ (s₁.setTop (mkF m 0 #[.val (.long q0), .second, .val (.int p1)] []))
  refine Good.back (fun _ k => XS.lloadN X0.here hx rfl (hb hby own_d1_0) rfl k) ?_
  show Good p e below _ (s₁.setTop (mkF m 1 #[.val (.long q0), .second, .val (.int p1)] [(.long q0)]))
  refine Good.back (fun _ k => XS.iloadN X0.here hx rfl (hb hby own_d1_1) rfl k) ?_
  show Good p e below _ (s₁.setTop (mkF m 2 #[.val (.long q0), .second, .val (.int p1)] [(.int p1), (.long q0)]))
  refine Good.back (fun _ k => XS.lushr X0.here hx rfl (hb hby own_d1_2) rfl k) ?_
  show Good p e below _ (s₁.setTop (mkF m 3 #[.val (.long q0), .second, .val (.int p1)] [(.long ((q0.toUInt64 >>> (p1 &&& 0x3f).toInt64.toUInt64).toInt64))]))
  refine Good.back (fun _ k => XS.lconst X0.here hx rfl (hb hby own_d1_3) k) ?_
  show Good p e below _ (s₁.setTop (mkF m 4 #[.val (.long q0), .second, .val (.int p1)] [(.long (1 : Int64)), (.long ((q0.toUInt64 >>> (p1 &&& 0x3f).toInt64.toUInt64).toInt64))]))
  refine Good.back (fun _ k => XS.land X0.here hx rfl (hb hby own_d1_4) rfl k) ?_
  show Good p e below _ (s₁.setTop (mkF m 5 #[.val (.long q0), .second, .val (.int p1)] [(.long (((q0.toUInt64 >>> (p1 &&& 0x3f).toInt64.toUInt64).toInt64) &&& (1 : Int64)))]))
  refine Good.back (fun _ k => XS.lconst X0.here hx rfl (hb hby own_d1_5) k) ?_
  show Good p e below _ (s₁.setTop (mkF m 6 #[.val (.long q0), .second, .val (.int p1)] [(.long (0 : Int64)), (.long (((q0.toUInt64 >>> (p1 &&& 0x3f).toInt64.toUInt64).toInt64) &&& (1 : Int64)))]))
  refine Good.back (fun _ k => XS.lcmp X0.here hx rfl (hb hby own_d1_6) rfl k) ?_
  show Good p e below _ (s₁.setTop (mkF m 7 #[.val (.long q0), .second, .val (.int p1)] [(.int (lcmpW (((q0.toUInt64 >>> (p1 &&& 0x3f).toInt64.toUInt64).toInt64) &&& (1 : Int64)) (0 : Int64)))]))
  by_cases hc7_1 : (lcmpW (((q0.toUInt64 >>> (p1 &&& 0x3f).toInt64.toUInt64).toInt64) &&& (1 : Int64)) (0 : Int64)) = (0 : Int32)
  · refine Good.back (fun _ k => XS.ifYes X0.here hx rfl (pc0 := 7) (pc' := 14) rfl (hb hby own_d1_7) rfl ((if0 _ _).trans (teq hc7_1).1) (by decide) (by decide) k) ?_
    show Good p e below _ (s₁.setTop (mkF m 14 #[.val (.long q0), .second, .val (.int p1)] []))
    refine Good.back (fun _ k => XS.iconst X0.here hx rfl (hb hby own_d1_14) k) ?_
    show Good p e below _ (s₁.setTop (mkF m 15 #[.val (.long q0), .second, .val (.int p1)] [(.int (0 : Int32))]))
    obtain ⟨fs2, hr2, hrun2, hended2, hW2, hsame2⟩ := X0.leave (v := some (.int (0 : Int32))) (fun h => by rw [Bd.returns] at h; cases h)
    refine Good.done (retN X0 hx (t := .boolean) Bd.returns (by simp) (hb hby own_d1_15) hr2) hrun2 hended2 ⟨_, _, rfl, ?_, ⟨_, rfl⟩, hW2, hsame2.mono (by decide) (by decide)⟩
    show Q1 Z q0 p1 h0 n0 _ s₁.heap _
    rw [e0]
    have hq := (lw_eq _ _).mp hc7_1
    exact ⟨by rw [if_neg (fun q : own_has q0 p1 => q hq)], N0, rfl⟩
  · refine Good.back (fun _ k => XS.ifNo X0.here hx rfl (hb hby own_d1_7) rfl ((if0 _ _).trans (feq hc7_1).1) k) ?_
    show Good p e below _ (s₁.setTop (mkF m 10 #[.val (.long q0), .second, .val (.int p1)] []))
    refine Good.back (fun _ k => XS.iconst X0.here hx rfl (hb hby own_d1_10) k) ?_
    show Good p e below _ (s₁.setTop (mkF m 11 #[.val (.long q0), .second, .val (.int p1)] [(.int (1 : Int32))]))
    refine Good.back (fun _ k => XS.goto X0.here hx rfl (pc0 := 11) (pc' := 15) rfl (hb hby own_d1_11) (by decide) (by decide) k) ?_
    show Good p e below _ (s₁.setTop (mkF m 15 #[.val (.long q0), .second, .val (.int p1)] [(.int (1 : Int32))]))
    obtain ⟨fs3, hr3, hrun3, hended3, hW3, hsame3⟩ := X0.leave (v := some (.int (1 : Int32))) (fun h => by rw [Bd.returns] at h; cases h)
    refine Good.done (retN X0 hx (t := .boolean) Bd.returns (by simp) (hb hby own_d1_15) hr3) hrun3 hended3 ⟨_, _, rfl, ?_, ⟨_, rfl⟩, hW3, hsame3.mono (by decide) (by decide)⟩
    show Q1 Z q0 p1 h0 n0 _ s₁.heap _
    rw [e0]
    have hq := fun q => hc7_1 ((lw_eq _ _).mpr q)
    exact ⟨by rw [if_pos (show own_has q0 p1 from hq)], N0, rfl⟩
theorem own_pn1 : plainName "com/example/trinode/trinode/troll/Board" = true := by first | (simp [plainName, overriddenIn]; done) | decide +kernel
theorem own_d2_0 : decode prog_31_method_12_code 0 = .ok (.lload_n 0, 1) := by decide +kernel
theorem own_d2_1 : decode prog_31_method_12_code 1 = .ok (.iconst 1, 1) := by decide +kernel
theorem own_d2_2 : decode prog_31_method_12_code 2 = .ok (.lshl, 1) := by decide +kernel
theorem own_d2_3 : decode prog_31_method_12_code 3 = .ok (.ldc2_w 63, 3) := by decide +kernel
theorem own_d2_6 : decode prog_31_method_12_code 6 = .ok (.land, 1) := by decide +kernel
theorem own_d2_7 : decode prog_31_method_12_code 7 = .ok (.lstore_n 2, 1) := by decide +kernel
theorem own_d2_8 : decode prog_31_method_12_code 8 = .ok (.lload_n 0, 1) := by decide +kernel
theorem own_d2_9 : decode prog_31_method_12_code 9 = .ok (.iconst 1, 1) := by decide +kernel
theorem own_d2_10 : decode prog_31_method_12_code 10 = .ok (.lushr, 1) := by decide +kernel
theorem own_d2_11 : decode prog_31_method_12_code 11 = .ok (.ldc2_w 65, 3) := by decide +kernel
theorem own_d2_14 : decode prog_31_method_12_code 14 = .ok (.land, 1) := by decide +kernel
theorem own_d2_15 : decode prog_31_method_12_code 15 = .ok (.lstore 4, 2) := by decide +kernel
theorem own_d2_17 : decode prog_31_method_12_code 17 = .ok (.lload_n 2, 1) := by decide +kernel
theorem own_d2_18 : decode prog_31_method_12_code 18 = .ok (.lload 4, 2) := by decide +kernel
theorem own_d2_20 : decode prog_31_method_12_code 20 = .ok (.lor, 1) := by decide +kernel
theorem own_d2_21 : decode prog_31_method_12_code 21 = .ok (.lload_n 0, 1) := by decide +kernel
theorem own_d2_22 : decode prog_31_method_12_code 22 = .ok (.bipush 8, 2) := by decide +kernel
theorem own_d2_24 : decode prog_31_method_12_code 24 = .ok (.lshl, 1) := by decide +kernel
theorem own_d2_25 : decode prog_31_method_12_code 25 = .ok (.lor, 1) := by decide +kernel
theorem own_d2_26 : decode prog_31_method_12_code 26 = .ok (.lload_n 0, 1) := by decide +kernel
theorem own_d2_27 : decode prog_31_method_12_code 27 = .ok (.bipush 8, 2) := by decide +kernel
theorem own_d2_29 : decode prog_31_method_12_code 29 = .ok (.lushr, 1) := by decide +kernel
theorem own_d2_30 : decode prog_31_method_12_code 30 = .ok (.lor, 1) := by decide +kernel
theorem own_d2_31 : decode prog_31_method_12_code 31 = .ok (.lreturn, 1) := by decide +kernel
theorem own_ef_2 (m : MethodId) (x0 : Int64) : entryFrame m #[(.long x0)] 6 = mkF m 0 #[.val (.long x0), .second, .unset, .unset, .unset, .unset] [] := by first | (simp [entryFrame, mkF, argsToLocals, Value.category]; done) | rfl
def Q2 (Z : State) (q0 : Int64) (h0 : Heap) (n0 : Nat) (v : Option Value) (h : Heap) (L : List Loc) : Prop := v = some (.long (own_nb q0)) ∧ Fr n0 L ∧ h = h0
set_option maxRecDepth 65536 in
set_option maxHeartbeats 40000000 in
theorem rm2 (l : Launch) (Z : State) (a0 : Array Value) (hw : ∀ d ∈ tables_1, d.before a0 Z = true) (ws : List Jvm.Cond) (q0 : Int64) (h0 : Heap) (n0 : Nat) (Z0 : n0 ≤ h0.size)  :
    MetFree l (⟨"com/example/trinode/trinode/troll/Board", "neighbours", "(J)J"⟩ : MethodName) (head1 (Jvm.Cond.code (⟨"com/example/trinode/trinode/troll/Board", "neighbours", "(J)J"⟩ : MethodName) prog_31_method_12_code 6 (some .long) :: ws) ({ frames := 0, cells := 0, slots := 0, locals := 0 } : Room)) (fun a U => a = #[(.long q0)] ∧ Z.Warmed39 U.vm ∧ U.heap = h0) (fun _ _ _ _ _ => True) (fun _ U o U' => ∃ v L, o = .returned v ∧ Q2 Z q0 h0 n0 v U'.heap L ∧ FrameEnd U o U' L ({ frames := 0, cells := 0, slots := 0, locals := 0 } : Room).cells ({ frames := 0, cells := 0, slots := 0, locals := 0 } : Room).slots) := by
  refine MetFree.of_bodySF (plainFor_of_name own_pn1) hisR ?_
  intro p e s m args below meth c s₁ Bd hml0 hP hK
  obtain ⟨rfl, hZ, hh⟩ := hP
  have hx := Bd.exec
  have hby := Bd.bytes
  have hml : c.maxLocals = 6 := hml0
  have hown : s.vm.findClass "com/example/trinode/trinode/troll/Board" = some m.cls := findClass_of_methodNamed Bd.named
  have hnm := (name_of_methodNamed Bd.named Bd.method).1
  have X0 : Stand p l e ({ frames := 0, cells := 0, slots := 0, locals := 0 } : Room) s m #[(.long q0)] below meth c s₁ [] 0 0 := Stand.of_body Bd
  have e0 : s₁.heap = h0 := by rw [← hh, Bd.state]; rfl
  have N0 := Fr.nil n0
  show Good p e below (fun o U' => ∃ v L, o = .returned v ∧ Q2 Z q0 h0 n0 v U'.heap L ∧ FrameEnd s o U' L ({ frames := 0, cells := 0, slots := 0, locals := 0 } : Room).cells ({ frames := 0, cells := 0, slots := 0, locals := 0 } : Room).slots) _
  refine Good.back (S' := s₁.setTop (mkF m 0 #[.val (.long q0), .second, .unset, .unset, .unset, .unset] [])) (fun t k => castTop (own_ef_2 m q0) k) ?_
  show Good p e below _ (s₁.setTop (mkF m 0 #[.val (.long q0), .second, .unset, .unset, .unset, .unset] []))
  refine Good.back (fun _ k => XS.lloadN X0.here hx rfl (hb hby own_d2_0) rfl k) ?_
  show Good p e below _ (s₁.setTop (mkF m 1 #[.val (.long q0), .second, .unset, .unset, .unset, .unset] [(.long q0)]))
  refine Good.back (fun _ k => XS.iconst X0.here hx rfl (hb hby own_d2_1) k) ?_
  show Good p e below _ (s₁.setTop (mkF m 2 #[.val (.long q0), .second, .unset, .unset, .unset, .unset] [(.int (1 : Int32)), (.long q0)]))
  refine Good.back (fun _ k => XS.lshl X0.here hx rfl (hb hby own_d2_2) rfl k) ?_
  show Good p e below _ (s₁.setTop (mkF m 3 #[.val (.long q0), .second, .unset, .unset, .unset, .unset] [(.long (q0 <<< ((1 : Int32) &&& 0x3f).toInt64))]))
  refine Good.back (X0.ldc2Long hx hown (mvT hZ (hw _ (List.mem_of_getElem? (i := 8) rfl))) (g := (mkF m 3 #[.val (.long q0), .second, .unset, .unset, .unset, .unset] [(.long (q0 <<< ((1 : Int32) &&& 0x3f).toInt64))])) rfl (hb hby own_d2_3)) ?_
  show Good p e below _ (s₁.setTop (mkF m 6 #[.val (.long q0), .second, .unset, .unset, .unset, .unset] [(.long (-72340172838076674 : Int64)), (.long (q0 <<< ((1 : Int32) &&& 0x3f).toInt64))]))
  refine Good.back (fun _ k => XS.land X0.here hx rfl (hb hby own_d2_6) rfl k) ?_
  show Good p e below _ (s₁.setTop (mkF m 7 #[.val (.long q0), .second, .unset, .unset, .unset, .unset] [(.long ((q0 <<< ((1 : Int32) &&& 0x3f).toInt64) &&& (-72340172838076674 : Int64)))]))
  refine Good.back (fun _ k => XS.lstoreN X0.here hx rfl (hb hby own_d2_7) rfl (l' := #[.val (.long q0), .second, .val (.long ((q0 <<< ((1 : Int32) &&& 0x3f).toInt64) &&& (-72340172838076674 : Int64))), .second, .unset, .unset]) rfl k) ?_
  show Good p e below _ (s₁.setTop (mkF m 8 #[.val (.long q0), .second, .val (.long ((q0 <<< ((1 : Int32) &&& 0x3f).toInt64) &&& (-72340172838076674 : Int64))), .second, .unset, .unset] []))
  refine Good.back (fun _ k => XS.lloadN X0.here hx rfl (hb hby own_d2_8) rfl k) ?_
  show Good p e below _ (s₁.setTop (mkF m 9 #[.val (.long q0), .second, .val (.long ((q0 <<< ((1 : Int32) &&& 0x3f).toInt64) &&& (-72340172838076674 : Int64))), .second, .unset, .unset] [(.long q0)]))
  refine Good.back (fun _ k => XS.iconst X0.here hx rfl (hb hby own_d2_9) k) ?_
  show Good p e below _ (s₁.setTop (mkF m 10 #[.val (.long q0), .second, .val (.long ((q0 <<< ((1 : Int32) &&& 0x3f).toInt64) &&& (-72340172838076674 : Int64))), .second, .unset, .unset] [(.int (1 : Int32)), (.long q0)]))
  refine Good.back (fun _ k => XS.lushr X0.here hx rfl (hb hby own_d2_10) rfl k) ?_
  show Good p e below _ (s₁.setTop (mkF m 11 #[.val (.long q0), .second, .val (.long ((q0 <<< ((1 : Int32) &&& 0x3f).toInt64) &&& (-72340172838076674 : Int64))), .second, .unset, .unset] [(.long ((q0.toUInt64 >>> ((1 : Int32) &&& 0x3f).toInt64.toUInt64).toInt64))]))
  refine Good.back (X0.ldc2Long hx hown (mvT hZ (hw _ (List.mem_of_getElem? (i := 9) rfl))) (g := (mkF m 11 #[.val (.long q0), .second, .val (.long ((q0 <<< ((1 : Int32) &&& 0x3f).toInt64) &&& (-72340172838076674 : Int64))), .second, .unset, .unset] [(.long ((q0.toUInt64 >>> ((1 : Int32) &&& 0x3f).toInt64.toUInt64).toInt64))])) rfl (hb hby own_d2_11)) ?_
  show Good p e below _ (s₁.setTop (mkF m 14 #[.val (.long q0), .second, .val (.long ((q0 <<< ((1 : Int32) &&& 0x3f).toInt64) &&& (-72340172838076674 : Int64))), .second, .unset, .unset] [(.long (9187201950435737471 : Int64)), (.long ((q0.toUInt64 >>> ((1 : Int32) &&& 0x3f).toInt64.toUInt64).toInt64))]))
  refine Good.back (fun _ k => XS.land X0.here hx rfl (hb hby own_d2_14) rfl k) ?_
  show Good p e below _ (s₁.setTop (mkF m 15 #[.val (.long q0), .second, .val (.long ((q0 <<< ((1 : Int32) &&& 0x3f).toInt64) &&& (-72340172838076674 : Int64))), .second, .unset, .unset] [(.long (((q0.toUInt64 >>> ((1 : Int32) &&& 0x3f).toInt64.toUInt64).toInt64) &&& (9187201950435737471 : Int64)))]))
  refine Good.back (fun _ k => XS.lstore X0.here hx rfl (hb hby own_d2_15) rfl (l' := #[.val (.long q0), .second, .val (.long ((q0 <<< ((1 : Int32) &&& 0x3f).toInt64) &&& (-72340172838076674 : Int64))), .second, .val (.long (((q0.toUInt64 >>> ((1 : Int32) &&& 0x3f).toInt64.toUInt64).toInt64) &&& (9187201950435737471 : Int64))), .second]) rfl k) ?_
  show Good p e below _ (s₁.setTop (mkF m 17 #[.val (.long q0), .second, .val (.long ((q0 <<< ((1 : Int32) &&& 0x3f).toInt64) &&& (-72340172838076674 : Int64))), .second, .val (.long (((q0.toUInt64 >>> ((1 : Int32) &&& 0x3f).toInt64.toUInt64).toInt64) &&& (9187201950435737471 : Int64))), .second] []))
  refine Good.back (fun _ k => XS.lloadN X0.here hx rfl (hb hby own_d2_17) rfl k) ?_
  show Good p e below _ (s₁.setTop (mkF m 18 #[.val (.long q0), .second, .val (.long ((q0 <<< ((1 : Int32) &&& 0x3f).toInt64) &&& (-72340172838076674 : Int64))), .second, .val (.long (((q0.toUInt64 >>> ((1 : Int32) &&& 0x3f).toInt64.toUInt64).toInt64) &&& (9187201950435737471 : Int64))), .second] [(.long ((q0 <<< ((1 : Int32) &&& 0x3f).toInt64) &&& (-72340172838076674 : Int64)))]))
  refine Good.back (fun _ k => XS.lload X0.here hx rfl (hb hby own_d2_18) rfl k) ?_
  show Good p e below _ (s₁.setTop (mkF m 20 #[.val (.long q0), .second, .val (.long ((q0 <<< ((1 : Int32) &&& 0x3f).toInt64) &&& (-72340172838076674 : Int64))), .second, .val (.long (((q0.toUInt64 >>> ((1 : Int32) &&& 0x3f).toInt64.toUInt64).toInt64) &&& (9187201950435737471 : Int64))), .second] [(.long (((q0.toUInt64 >>> ((1 : Int32) &&& 0x3f).toInt64.toUInt64).toInt64) &&& (9187201950435737471 : Int64))), (.long ((q0 <<< ((1 : Int32) &&& 0x3f).toInt64) &&& (-72340172838076674 : Int64)))]))
  refine Good.back (fun _ k => XS.lor X0.here hx rfl (hb hby own_d2_20) rfl k) ?_
  show Good p e below _ (s₁.setTop (mkF m 21 #[.val (.long q0), .second, .val (.long ((q0 <<< ((1 : Int32) &&& 0x3f).toInt64) &&& (-72340172838076674 : Int64))), .second, .val (.long (((q0.toUInt64 >>> ((1 : Int32) &&& 0x3f).toInt64.toUInt64).toInt64) &&& (9187201950435737471 : Int64))), .second] [(.long (((q0 <<< ((1 : Int32) &&& 0x3f).toInt64) &&& (-72340172838076674 : Int64)) ||| (((q0.toUInt64 >>> ((1 : Int32) &&& 0x3f).toInt64.toUInt64).toInt64) &&& (9187201950435737471 : Int64))))]))
  refine Good.back (fun _ k => XS.lloadN X0.here hx rfl (hb hby own_d2_21) rfl k) ?_
  show Good p e below _ (s₁.setTop (mkF m 22 #[.val (.long q0), .second, .val (.long ((q0 <<< ((1 : Int32) &&& 0x3f).toInt64) &&& (-72340172838076674 : Int64))), .second, .val (.long (((q0.toUInt64 >>> ((1 : Int32) &&& 0x3f).toInt64.toUInt64).toInt64) &&& (9187201950435737471 : Int64))), .second] [(.long q0), (.long (((q0 <<< ((1 : Int32) &&& 0x3f).toInt64) &&& (-72340172838076674 : Int64)) ||| (((q0.toUInt64 >>> ((1 : Int32) &&& 0x3f).toInt64.toUInt64).toInt64) &&& (9187201950435737471 : Int64))))]))
  refine Good.back (fun _ k => XS.bipush X0.here hx rfl (hb hby own_d2_22) k) ?_
  show Good p e below _ (s₁.setTop (mkF m 24 #[.val (.long q0), .second, .val (.long ((q0 <<< ((1 : Int32) &&& 0x3f).toInt64) &&& (-72340172838076674 : Int64))), .second, .val (.long (((q0.toUInt64 >>> ((1 : Int32) &&& 0x3f).toInt64.toUInt64).toInt64) &&& (9187201950435737471 : Int64))), .second] [(.int (8 : Int32)), (.long q0), (.long (((q0 <<< ((1 : Int32) &&& 0x3f).toInt64) &&& (-72340172838076674 : Int64)) ||| (((q0.toUInt64 >>> ((1 : Int32) &&& 0x3f).toInt64.toUInt64).toInt64) &&& (9187201950435737471 : Int64))))]))
  refine Good.back (fun _ k => XS.lshl X0.here hx rfl (hb hby own_d2_24) rfl k) ?_
  show Good p e below _ (s₁.setTop (mkF m 25 #[.val (.long q0), .second, .val (.long ((q0 <<< ((1 : Int32) &&& 0x3f).toInt64) &&& (-72340172838076674 : Int64))), .second, .val (.long (((q0.toUInt64 >>> ((1 : Int32) &&& 0x3f).toInt64.toUInt64).toInt64) &&& (9187201950435737471 : Int64))), .second] [(.long (q0 <<< ((8 : Int32) &&& 0x3f).toInt64)), (.long (((q0 <<< ((1 : Int32) &&& 0x3f).toInt64) &&& (-72340172838076674 : Int64)) ||| (((q0.toUInt64 >>> ((1 : Int32) &&& 0x3f).toInt64.toUInt64).toInt64) &&& (9187201950435737471 : Int64))))]))
  refine Good.back (fun _ k => XS.lor X0.here hx rfl (hb hby own_d2_25) rfl k) ?_
  show Good p e below _ (s₁.setTop (mkF m 26 #[.val (.long q0), .second, .val (.long ((q0 <<< ((1 : Int32) &&& 0x3f).toInt64) &&& (-72340172838076674 : Int64))), .second, .val (.long (((q0.toUInt64 >>> ((1 : Int32) &&& 0x3f).toInt64.toUInt64).toInt64) &&& (9187201950435737471 : Int64))), .second] [(.long ((((q0 <<< ((1 : Int32) &&& 0x3f).toInt64) &&& (-72340172838076674 : Int64)) ||| (((q0.toUInt64 >>> ((1 : Int32) &&& 0x3f).toInt64.toUInt64).toInt64) &&& (9187201950435737471 : Int64))) ||| (q0 <<< ((8 : Int32) &&& 0x3f).toInt64)))]))
  refine Good.back (fun _ k => XS.lloadN X0.here hx rfl (hb hby own_d2_26) rfl k) ?_
  show Good p e below _ (s₁.setTop (mkF m 27 #[.val (.long q0), .second, .val (.long ((q0 <<< ((1 : Int32) &&& 0x3f).toInt64) &&& (-72340172838076674 : Int64))), .second, .val (.long (((q0.toUInt64 >>> ((1 : Int32) &&& 0x3f).toInt64.toUInt64).toInt64) &&& (9187201950435737471 : Int64))), .second] [(.long q0), (.long ((((q0 <<< ((1 : Int32) &&& 0x3f).toInt64) &&& (-72340172838076674 : Int64)) ||| (((q0.toUInt64 >>> ((1 : Int32) &&& 0x3f).toInt64.toUInt64).toInt64) &&& (9187201950435737471 : Int64))) ||| (q0 <<< ((8 : Int32) &&& 0x3f).toInt64)))]))
  refine Good.back (fun _ k => XS.bipush X0.here hx rfl (hb hby own_d2_27) k) ?_
  show Good p e below _ (s₁.setTop (mkF m 29 #[.val (.long q0), .second, .val (.long ((q0 <<< ((1 : Int32) &&& 0x3f).toInt64) &&& (-72340172838076674 : Int64))), .second, .val (.long (((q0.toUInt64 >>> ((1 : Int32) &&& 0x3f).toInt64.toUInt64).toInt64) &&& (9187201950435737471 : Int64))), .second] [(.int (8 : Int32)), (.long q0), (.long ((((q0 <<< ((1 : Int32) &&& 0x3f).toInt64) &&& (-72340172838076674 : Int64)) ||| (((q0.toUInt64 >>> ((1 : Int32) &&& 0x3f).toInt64.toUInt64).toInt64) &&& (9187201950435737471 : Int64))) ||| (q0 <<< ((8 : Int32) &&& 0x3f).toInt64)))]))
  refine Good.back (fun _ k => XS.lushr X0.here hx rfl (hb hby own_d2_29) rfl k) ?_
  show Good p e below _ (s₁.setTop (mkF m 30 #[.val (.long q0), .second, .val (.long ((q0 <<< ((1 : Int32) &&& 0x3f).toInt64) &&& (-72340172838076674 : Int64))), .second, .val (.long (((q0.toUInt64 >>> ((1 : Int32) &&& 0x3f).toInt64.toUInt64).toInt64) &&& (9187201950435737471 : Int64))), .second] [(.long ((q0.toUInt64 >>> ((8 : Int32) &&& 0x3f).toInt64.toUInt64).toInt64)), (.long ((((q0 <<< ((1 : Int32) &&& 0x3f).toInt64) &&& (-72340172838076674 : Int64)) ||| (((q0.toUInt64 >>> ((1 : Int32) &&& 0x3f).toInt64.toUInt64).toInt64) &&& (9187201950435737471 : Int64))) ||| (q0 <<< ((8 : Int32) &&& 0x3f).toInt64)))]))
  refine Good.back (fun _ k => XS.lor X0.here hx rfl (hb hby own_d2_30) rfl k) ?_
  show Good p e below _ (s₁.setTop (mkF m 31 #[.val (.long q0), .second, .val (.long ((q0 <<< ((1 : Int32) &&& 0x3f).toInt64) &&& (-72340172838076674 : Int64))), .second, .val (.long (((q0.toUInt64 >>> ((1 : Int32) &&& 0x3f).toInt64.toUInt64).toInt64) &&& (9187201950435737471 : Int64))), .second] [(.long (((((q0 <<< ((1 : Int32) &&& 0x3f).toInt64) &&& (-72340172838076674 : Int64)) ||| (((q0.toUInt64 >>> ((1 : Int32) &&& 0x3f).toInt64.toUInt64).toInt64) &&& (9187201950435737471 : Int64))) ||| (q0 <<< ((8 : Int32) &&& 0x3f).toInt64)) ||| ((q0.toUInt64 >>> ((8 : Int32) &&& 0x3f).toInt64.toUInt64).toInt64)))]))
  obtain ⟨fs1, hr1, hrun1, hended1, hW1, hsame1⟩ := X0.leave (v := some (.long (((((q0 <<< ((1 : Int32) &&& 0x3f).toInt64) &&& (-72340172838076674 : Int64)) ||| (((q0.toUInt64 >>> ((1 : Int32) &&& 0x3f).toInt64.toUInt64).toInt64) &&& (9187201950435737471 : Int64))) ||| (q0 <<< ((8 : Int32) &&& 0x3f).toInt64)) ||| ((q0.toUInt64 >>> ((8 : Int32) &&& 0x3f).toInt64.toUInt64).toInt64)))) (fun h => by rw [Bd.returns] at h; cases h)
  refine Good.done (retOut X0 hx Bd.returns rfl (Or.inr (Or.inl ⟨rfl, rfl, _, rfl⟩)) (hb hby own_d2_31) hr1) hrun1 hended1 ⟨_, _, rfl, ?_, ⟨_, rfl⟩, hW1, hsame1.mono (by decide) (by decide)⟩
  show Q2 Z q0 h0 n0 _ s₁.heap _
  rw [e0]
  exact ⟨rfl, N0, rfl⟩
theorem own_pd36 : parseMethodDescriptor "(JI)Z" = some ⟨[.long, .int], some .boolean⟩ := by decide +kernel
theorem own_pd37 : parseMethodDescriptor "(J)J" = some ⟨[.long], some .long⟩ := by decide +kernel
theorem own_ef_0 (m : MethodId) (x0 : Int64) (x1 : Int32) : entryFrame m #[(.long x0), (.int x1)] maxLocals = mkF m 0 #[.val (.long x0), .second, .val (.int x1), .unset, .unset, .unset, .unset, .unset] [] := by first | (simp [entryFrame, mkF, argsToLocals, Value.category, maxLocals]; done) | rfl
def Q0 (Z : State) (q0 : Int64) (p1 : Int32) (h0 : Heap) (n0 : Nat) (v : Option Value) (h : Heap) (L : List Loc) : Prop := v = some (.int 1) ∧ Fr n0 L
set_option maxRecDepth 65536 in
set_option maxHeartbeats 40000000 in
theorem rm0 (l : Launch) (Z : State) (a0 : Array Value) (hw : ∀ d ∈ tables_1, d.before a0 Z = true) (ws : List Jvm.Cond) (q0 : Int64) (p1 : Int32) (h0 : Heap) (n0 : Nat) (Z0 : n0 ≤ h0.size)  :
    MetFree l x (head1 (Jvm.Cond.code x code maxLocals ret :: ws) room_1) (fun a U => a = #[(.long q0), (.int p1)] ∧ Z.Warmed39 U.vm ∧ U.heap = h0) (fun _ _ _ _ _ => True) (fun _ U o U' => ∃ v L, o = .returned v ∧ Q0 Z q0 p1 h0 n0 v U'.heap L ∧ FrameEnd U o U' L 0 0) := by
  refine MetFree.of_bodySF (plainFor_of_name own_pn0) hisR ?_
  intro p e s m args below meth c s₁ Bd hml0 hP hK
  obtain ⟨rfl, hZ, hh⟩ := hP
  have hx := Bd.exec
  have hby := Bd.bytes
  have hml : c.maxLocals = 8 := hml0
  have hown : s.vm.findClass "com/example/trinode/trinode/troll/BoardNeighboursPinLaw" = some m.cls := findClass_of_methodNamed Bd.named
  have hnm := (name_of_methodNamed Bd.named Bd.method).1
  have X0 : Stand p l e room_1 s m #[(.long q0), (.int p1)] below meth c s₁ [] 0 0 := Stand.of_body Bd
  have e0 : s₁.heap = h0 := by rw [← hh, Bd.state]; rfl
  have N0 := Fr.nil n0
  show Good p e below (fun o U' => ∃ v L, o = .returned v ∧ Q0 Z q0 p1 h0 n0 v U'.heap L ∧ FrameEnd s o U' L 0 0) _
  refine Good.back (S' := s₁.setTop (mkF m 0 #[.val (.long q0), .second, .val (.int p1), .unset, .unset, .unset, .unset, .unset] [])) (fun t k => castTop (own_ef_0 m q0 p1) k) ?_
  show Good p e below _ (s₁.setTop (mkF m 0 #[.val (.long q0), .second, .val (.int p1), .unset, .unset, .unset, .unset, .unset] []))
  refine Good.back (fun _ k => XS.iloadN X0.here hx rfl (hb hby at_0) rfl k) ?_
  show Good p e below _ (s₁.setTop (mkF m 1 #[.val (.long q0), .second, .val (.int p1), .unset, .unset, .unset, .unset, .unset] [(.int p1)]))
  refine Good.back (fun _ k => XS.bipush X0.here hx rfl (hb hby at_1) k) ?_
  show Good p e below _ (s₁.setTop (mkF m 3 #[.val (.long q0), .second, .val (.int p1), .unset, .unset, .unset, .unset, .unset] [(.int (63 : Int32)), (.int p1)]))
  refine Good.back (fun _ k => XS.iand X0.here hx rfl (hb hby at_3) rfl k) ?_
  show Good p e below _ (s₁.setTop (mkF m 4 #[.val (.long q0), .second, .val (.int p1), .unset, .unset, .unset, .unset, .unset] [(.int (p1 &&& (63 : Int32)))]))
  refine Good.back (fun _ k => XS.istoreN X0.here hx rfl (hb hby at_4) rfl (l' := #[.val (.long q0), .second, .val (.int p1), .val (.int (p1 &&& (63 : Int32))), .unset, .unset, .unset, .unset]) rfl k) ?_
  show Good p e below _ (s₁.setTop (mkF m 5 #[.val (.long q0), .second, .val (.int p1), .val (.int (p1 &&& (63 : Int32))), .unset, .unset, .unset, .unset] []))
  obtain ⟨tt, htt⟩ : ∃ z, z = (p1 &&& (63 : Int32)) := ⟨_, rfl⟩
  rw [← htt]
  have t0 : 0 ≤ tt.toInt := by rw [htt]; exact (own_t _).1
  have t1 : tt.toInt < 64 := by rw [htt]; exact (own_t _).2
  show Good p e below _ (s₁.setTop (mkF m 5 #[.val (.long q0), .second, .val (.int p1), .val (.int tt), .unset, .unset, .unset, .unset] []))
  refine Good.back (fun _ k => XS.iloadN X0.here hx rfl (hb hby at_5) rfl k) ?_
  show Good p e below _ (s₁.setTop (mkF m 6 #[.val (.long q0), .second, .val (.int p1), .val (.int tt), .unset, .unset, .unset, .unset] [(.int tt)]))
  refine Good.back (fun _ k => XS.bipush X0.here hx rfl (hb hby at_6) k) ?_
  show Good p e below _ (s₁.setTop (mkF m 8 #[.val (.long q0), .second, .val (.int p1), .val (.int tt), .unset, .unset, .unset, .unset] [(.int (8 : Int32)), (.int tt)]))
  refine Good.back (fun _ k => iremM (g := (mkF m 8 #[.val (.long q0), .second, .val (.int p1), .val (.int tt), .unset, .unset, .unset, .unset] [(.int (8 : Int32)), (.int tt)])) X0 hx rfl (hb hby at_8) rfl (by decide) k) ?_
  show Good p e below _ (s₁.setTop (mkF m 9 #[.val (.long q0), .second, .val (.int p1), .val (.int tt), .unset, .unset, .unset, .unset] [(.int (tt % (8 : Int32)))]))
  refine Good.back (fun _ k => XS.istore X0.here hx rfl (hb hby at_9) rfl (l' := #[.val (.long q0), .second, .val (.int p1), .val (.int tt), .val (.int (tt % (8 : Int32))), .unset, .unset, .unset]) rfl k) ?_
  show Good p e below _ (s₁.setTop (mkF m 11 #[.val (.long q0), .second, .val (.int p1), .val (.int tt), .val (.int (tt % (8 : Int32))), .unset, .unset, .unset] []))
  refine Good.back (fun _ k => XS.iloadN X0.here hx rfl (hb hby at_11) rfl k) ?_
  show Good p e below _ (s₁.setTop (mkF m 12 #[.val (.long q0), .second, .val (.int p1), .val (.int tt), .val (.int (tt % (8 : Int32))), .unset, .unset, .unset] [(.int tt)]))
  refine Good.back (fun _ k => XS.bipush X0.here hx rfl (hb hby at_12) k) ?_
  show Good p e below _ (s₁.setTop (mkF m 14 #[.val (.long q0), .second, .val (.int p1), .val (.int tt), .val (.int (tt % (8 : Int32))), .unset, .unset, .unset] [(.int (8 : Int32)), (.int tt)]))
  refine Good.back (fun _ k => XS.idiv X0.here hx rfl (hb hby at_14) rfl (by decide) k) ?_
  show Good p e below _ (s₁.setTop (mkF m 15 #[.val (.long q0), .second, .val (.int p1), .val (.int tt), .val (.int (tt % (8 : Int32))), .unset, .unset, .unset] [(.int (tt / (8 : Int32)))]))
  refine Good.back (fun _ k => XS.istore X0.here hx rfl (hb hby at_15) rfl (l' := #[.val (.long q0), .second, .val (.int p1), .val (.int tt), .val (.int (tt % (8 : Int32))), .val (.int (tt / (8 : Int32))), .unset, .unset]) rfl k) ?_
  show Good p e below _ (s₁.setTop (mkF m 17 #[.val (.long q0), .second, .val (.int p1), .val (.int tt), .val (.int (tt % (8 : Int32))), .val (.int (tt / (8 : Int32))), .unset, .unset] []))
  refine Good.back (fun _ k => XS.iload X0.here hx rfl (hb hby at_17) rfl k) ?_
  show Good p e below _ (s₁.setTop (mkF m 19 #[.val (.long q0), .second, .val (.int p1), .val (.int tt), .val (.int (tt % (8 : Int32))), .val (.int (tt / (8 : Int32))), .unset, .unset] [(.int (tt % (8 : Int32)))]))
  by_cases hc19_1 : (0 : Int32) < (tt % (8 : Int32))
  · refine Good.back (fun _ k => XS.ifNo X0.here hx rfl (hb hby at_19) rfl ((if0 _ _).trans (tlt hc19_1).2.2.2) k) ?_
    show Good p e below _ (s₁.setTop (mkF m 22 #[.val (.long q0), .second, .val (.int p1), .val (.int tt), .val (.int (tt % (8 : Int32))), .val (.int (tt / (8 : Int32))), .unset, .unset] []))
    refine Good.back (fun _ k => XS.lloadN X0.here hx rfl (hb hby at_22) rfl k) ?_
    show Good p e below _ (s₁.setTop (mkF m 23 #[.val (.long q0), .second, .val (.int p1), .val (.int tt), .val (.int (tt % (8 : Int32))), .val (.int (tt / (8 : Int32))), .unset, .unset] [(.long q0)]))
    refine Good.back (fun _ k => XS.iloadN X0.here hx rfl (hb hby at_23) rfl k) ?_
    show Good p e below _ (s₁.setTop (mkF m 24 #[.val (.long q0), .second, .val (.int p1), .val (.int tt), .val (.int (tt % (8 : Int32))), .val (.int (tt / (8 : Int32))), .unset, .unset] [(.int tt), (.long q0)]))
    refine Good.back (fun _ k => XS.iconst X0.here hx rfl (hb hby at_24) k) ?_
    show Good p e below _ (s₁.setTop (mkF m 25 #[.val (.long q0), .second, .val (.int p1), .val (.int tt), .val (.int (tt % (8 : Int32))), .val (.int (tt / (8 : Int32))), .unset, .unset] [(.int (1 : Int32)), (.int tt), (.long q0)]))
    refine Good.back (fun _ k => XS.isub X0.here hx rfl (hb hby at_25) rfl k) ?_
    show Good p e below _ (s₁.setTop (mkF m 26 #[.val (.long q0), .second, .val (.int p1), .val (.int tt), .val (.int (tt % (8 : Int32))), .val (.int (tt / (8 : Int32))), .unset, .unset] [(.int (tt - (1 : Int32))), (.long q0)]))
    obtain ⟨_, _, ⟨T2, L2, k2, n2⟩, -, X2, ⟨Lc2, hQ2, l2, y2, z2⟩, st2⟩ := Jvm.LawKit.callS X0 hx (y := (⟨"com/example/trinode/trinode/troll/BoardNeighboursPinLaw", "has", "(JI)Z"⟩ : MethodName)) hown (mvT hZ (hw _ (List.mem_of_getElem? (i := 0) rfl))) (mvT hZ (hw _ (List.mem_of_getElem? (i := 1) rfl))) (mvT hZ (hw _ (List.mem_of_getElem? (i := 2) rfl))) (mvT hZ (hw _ (List.mem_of_getElem? (i := 3) rfl))) (by decide) (backOf (W := 0) (rm1 l Z a0 hw [] q0 (tt - (1 : Int32))  h0 n0 Z0 ) hZ (hw _ (List.mem_of_getElem? (i := 3) rfl)) (hw _ (List.mem_of_getElem? (i := 2) rfl)) (by decide) (by decide)) (g := (mkF m 26 #[.val (.long q0), .second, .val (.int p1), .val (.int tt), .val (.int (tt % (8 : Int32))), .val (.int (tt / (8 : Int32))), .unset, .unset] [(.int (tt - (1 : Int32))), (.long q0)])) rfl (by rw [hml]; rfl) (argsL := [(.long q0), (.int (tt - (1 : Int32)))]) (rest := []) (lenOf own_pd36 rfl) rfl (by show 2 * 0 + _ ≤ _; exact Nat.le_of_eq rfl) (hb hby at_26) (fun _ _ => ⟨rfl, e0, (by decide : 0 + 0 ≤ _), (by decide : 0 + 0 ≤ _)⟩)
    dsimp only [Pt.U, Pt.locs, Pt.cells, Pt.slots] at X2 l2 y2 z2 st2 hQ2
    subst l2 y2 z2
    obtain ⟨rfl, N2q, eh2⟩ := hQ2
    have N2 := Fr.app N0 N2q
    refine Good.back st2 ?_
    show Good p e below _ (T2.setTop (mkF m 29 #[.val (.long q0), .second, .val (.int p1), .val (.int tt), .val (.int (tt % (8 : Int32))), .val (.int (tt / (8 : Int32))), .unset, .unset] [(.int (if own_has q0 (tt - (1 : Int32)) then (1 : Int32) else (0 : Int32)))]))
    by_cases hb29_3 : own_has q0 (tt - (1 : Int32))
    · rw [if_pos hb29_3]
      show Good p e below _ (T2.setTop (mkF m 29 #[.val (.long q0), .second, .val (.int p1), .val (.int tt), .val (.int (tt % (8 : Int32))), .val (.int (tt / (8 : Int32))), .unset, .unset] [(.int (1 : Int32))]))
      refine Good.back (fun _ k => XS.ifYes X2.here hx rfl (pc0 := 29) (pc' := 83) rfl (hb hby at_29) rfl ((if0 _ _).trans (feq (by decide : ¬ ((1 : Int32) = (0 : Int32)))).2) (by decide) (by decide) k) ?_
      show Good p e below _ (T2.setTop (mkF m 83 #[.val (.long q0), .second, .val (.int p1), .val (.int tt), .val (.int (tt % (8 : Int32))), .val (.int (tt / (8 : Int32))), .unset, .unset] []))
      refine Good.back (fun _ k => XS.iconst X2.here hx rfl (hb hby at_83) k) ?_
      show Good p e below _ (T2.setTop (mkF m 84 #[.val (.long q0), .second, .val (.int p1), .val (.int tt), .val (.int (tt % (8 : Int32))), .val (.int (tt / (8 : Int32))), .unset, .unset] [(.int (1 : Int32))]))
      refine Good.back (fun _ k => XS.goto X2.here hx rfl (pc0 := 84) (pc' := 88) rfl (hb hby at_84) (by decide) (by decide) k) ?_
      show Good p e below _ (T2.setTop (mkF m 88 #[.val (.long q0), .second, .val (.int p1), .val (.int tt), .val (.int (tt % (8 : Int32))), .val (.int (tt / (8 : Int32))), .unset, .unset] [(.int (1 : Int32))]))
      refine Good.back (fun _ k => XS.istore X2.here hx rfl (hb hby at_88) rfl (l' := #[.val (.long q0), .second, .val (.int p1), .val (.int tt), .val (.int (tt % (8 : Int32))), .val (.int (tt / (8 : Int32))), .val (.int (1 : Int32)), .unset]) rfl k) ?_
      show Good p e below _ (T2.setTop (mkF m 90 #[.val (.long q0), .second, .val (.int p1), .val (.int tt), .val (.int (tt % (8 : Int32))), .val (.int (tt / (8 : Int32))), .val (.int (1 : Int32)), .unset] []))
      refine Good.back (fun _ k => XS.lloadN X2.here hx rfl (hb hby at_90) rfl k) ?_
      show Good p e below _ (T2.setTop (mkF m 91 #[.val (.long q0), .second, .val (.int p1), .val (.int tt), .val (.int (tt % (8 : Int32))), .val (.int (tt / (8 : Int32))), .val (.int (1 : Int32)), .unset] [(.long q0)]))
      obtain ⟨_, _, ⟨T4, L4, k4, n4⟩, -, X4, ⟨Lc4, hQ4, l4, y4, z4⟩, st4⟩ := Jvm.LawKit.callS X2 hx (y := (⟨"com/example/trinode/trinode/troll/Board", "neighbours", "(J)J"⟩ : MethodName)) hown (mvT hZ (hw _ (List.mem_of_getElem? (i := 4) rfl))) (mvT hZ (hw _ (List.mem_of_getElem? (i := 5) rfl))) (mvT hZ (hw _ (List.mem_of_getElem? (i := 6) rfl))) (mvT hZ (hw _ (List.mem_of_getElem? (i := 7) rfl))) (by decide) (backOf (W := 0) (rm2 l Z a0 hw [] q0  h0 n0 Z0 ) hZ (hw _ (List.mem_of_getElem? (i := 7) rfl)) (hw _ (List.mem_of_getElem? (i := 6) rfl)) (by decide) (by decide)) (g := (mkF m 91 #[.val (.long q0), .second, .val (.int p1), .val (.int tt), .val (.int (tt % (8 : Int32))), .val (.int (tt / (8 : Int32))), .val (.int (1 : Int32)), .unset] [(.long q0)])) rfl (by rw [hml]; rfl) (argsL := [(.long q0)]) (rest := []) (lenOf own_pd37 rfl) rfl (by show 2 * 0 + _ ≤ _; exact Nat.le_of_eq rfl) (hb hby at_91) (fun _ _ => ⟨rfl, eh2, (by decide : 0 + 0 ≤ _), (by decide : 0 + 0 ≤ _)⟩)
      dsimp only [Pt.U, Pt.locs, Pt.cells, Pt.slots] at X4 l4 y4 z4 st4 hQ4
      subst l4 y4 z4
      obtain ⟨rfl, N4q, eh4⟩ := hQ4
      have N4 := Fr.app N2 N4q
      refine Good.back st4 ?_
      show Good p e below _ (T4.setTop (mkF m 94 #[.val (.long q0), .second, .val (.int p1), .val (.int tt), .val (.int (tt % (8 : Int32))), .val (.int (tt / (8 : Int32))), .val (.int (1 : Int32)), .unset] [(.long (own_nb q0))]))
      refine Good.back (fun _ k => XS.iloadN X4.here hx rfl (hb hby at_94) rfl k) ?_
      show Good p e below _ (T4.setTop (mkF m 95 #[.val (.long q0), .second, .val (.int p1), .val (.int tt), .val (.int (tt % (8 : Int32))), .val (.int (tt / (8 : Int32))), .val (.int (1 : Int32)), .unset] [(.int tt), (.long (own_nb q0))]))
      refine Good.back (fun _ k => XS.lushr X4.here hx rfl (hb hby at_95) rfl k) ?_
      show Good p e below _ (T4.setTop (mkF m 96 #[.val (.long q0), .second, .val (.int p1), .val (.int tt), .val (.int (tt % (8 : Int32))), .val (.int (tt / (8 : Int32))), .val (.int (1 : Int32)), .unset] [(.long (((own_nb q0).toUInt64 >>> (tt &&& 0x3f).toInt64.toUInt64).toInt64))]))
      refine Good.back (fun _ k => XS.lconst X4.here hx rfl (hb hby at_96) k) ?_
      show Good p e below _ (T4.setTop (mkF m 97 #[.val (.long q0), .second, .val (.int p1), .val (.int tt), .val (.int (tt % (8 : Int32))), .val (.int (tt / (8 : Int32))), .val (.int (1 : Int32)), .unset] [(.long (1 : Int64)), (.long (((own_nb q0).toUInt64 >>> (tt &&& 0x3f).toInt64.toUInt64).toInt64))]))
      refine Good.back (fun _ k => XS.land X4.here hx rfl (hb hby at_97) rfl k) ?_
      show Good p e below _ (T4.setTop (mkF m 98 #[.val (.long q0), .second, .val (.int p1), .val (.int tt), .val (.int (tt % (8 : Int32))), .val (.int (tt / (8 : Int32))), .val (.int (1 : Int32)), .unset] [(.long ((((own_nb q0).toUInt64 >>> (tt &&& 0x3f).toInt64.toUInt64).toInt64) &&& (1 : Int64)))]))
      refine Good.back (fun _ k => XS.lconst X4.here hx rfl (hb hby at_98) k) ?_
      show Good p e below _ (T4.setTop (mkF m 99 #[.val (.long q0), .second, .val (.int p1), .val (.int tt), .val (.int (tt % (8 : Int32))), .val (.int (tt / (8 : Int32))), .val (.int (1 : Int32)), .unset] [(.long (0 : Int64)), (.long ((((own_nb q0).toUInt64 >>> (tt &&& 0x3f).toInt64.toUInt64).toInt64) &&& (1 : Int64)))]))
      refine Good.back (fun _ k => XS.lcmp X4.here hx rfl (hb hby at_99) rfl k) ?_
      show Good p e below _ (T4.setTop (mkF m 100 #[.val (.long q0), .second, .val (.int p1), .val (.int tt), .val (.int (tt % (8 : Int32))), .val (.int (tt / (8 : Int32))), .val (.int (1 : Int32)), .unset] [(.int (lcmpW ((((own_nb q0).toUInt64 >>> (tt &&& 0x3f).toInt64.toUInt64).toInt64) &&& (1 : Int64)) (0 : Int64)))]))
      refine Good.back (fun _ k => XS.ifNo X4.here hx rfl (hb hby at_100) rfl ((if0 _ _).trans (feq (fun q => ((own_law q0 tt t0 t1).mpr (Or.inl ⟨hc19_1, hb29_3⟩)) ((lw_eq _ _).mp q))).1) k) ?_
      show Good p e below _ (T4.setTop (mkF m 103 #[.val (.long q0), .second, .val (.int p1), .val (.int tt), .val (.int (tt % (8 : Int32))), .val (.int (tt / (8 : Int32))), .val (.int (1 : Int32)), .unset] []))
      refine Good.back (fun _ k => XS.iconst X4.here hx rfl (hb hby at_103) k) ?_
      show Good p e below _ (T4.setTop (mkF m 104 #[.val (.long q0), .second, .val (.int p1), .val (.int tt), .val (.int (tt % (8 : Int32))), .val (.int (tt / (8 : Int32))), .val (.int (1 : Int32)), .unset] [(.int (1 : Int32))]))
      refine Good.back (fun _ k => XS.goto X4.here hx rfl (pc0 := 104) (pc' := 108) rfl (hb hby at_104) (by decide) (by decide) k) ?_
      show Good p e below _ (T4.setTop (mkF m 108 #[.val (.long q0), .second, .val (.int p1), .val (.int tt), .val (.int (tt % (8 : Int32))), .val (.int (tt / (8 : Int32))), .val (.int (1 : Int32)), .unset] [(.int (1 : Int32))]))
      refine Good.back (fun _ k => XS.istore X4.here hx rfl (hb hby at_108) rfl (l' := #[.val (.long q0), .second, .val (.int p1), .val (.int tt), .val (.int (tt % (8 : Int32))), .val (.int (tt / (8 : Int32))), .val (.int (1 : Int32)), .val (.int (1 : Int32))]) rfl k) ?_
      show Good p e below _ (T4.setTop (mkF m 110 #[.val (.long q0), .second, .val (.int p1), .val (.int tt), .val (.int (tt % (8 : Int32))), .val (.int (tt / (8 : Int32))), .val (.int (1 : Int32)), .val (.int (1 : Int32))] []))
      refine Good.back (fun _ k => XS.iload X4.here hx rfl (hb hby at_110) rfl k) ?_
      show Good p e below _ (T4.setTop (mkF m 112 #[.val (.long q0), .second, .val (.int p1), .val (.int tt), .val (.int (tt % (8 : Int32))), .val (.int (tt / (8 : Int32))), .val (.int (1 : Int32)), .val (.int (1 : Int32))] [(.int (1 : Int32))]))
      refine Good.back (fun _ k => XS.iload X4.here hx rfl (hb hby at_112) rfl k) ?_
      show Good p e below _ (T4.setTop (mkF m 114 #[.val (.long q0), .second, .val (.int p1), .val (.int tt), .val (.int (tt % (8 : Int32))), .val (.int (tt / (8 : Int32))), .val (.int (1 : Int32)), .val (.int (1 : Int32))] [(.int (1 : Int32)), (.int (1 : Int32))]))
      refine Good.back (fun _ k => XS.icmpNo X4.here hx rfl (hb hby at_114) rfl (teq (by decide : ((1 : Int32) = (1 : Int32)))).2 k) ?_
      show Good p e below _ (T4.setTop (mkF m 117 #[.val (.long q0), .second, .val (.int p1), .val (.int tt), .val (.int (tt % (8 : Int32))), .val (.int (tt / (8 : Int32))), .val (.int (1 : Int32)), .val (.int (1 : Int32))] []))
      refine Good.back (fun _ k => XS.iconst X4.here hx rfl (hb hby at_117) k) ?_
      show Good p e below _ (T4.setTop (mkF m 118 #[.val (.long q0), .second, .val (.int p1), .val (.int tt), .val (.int (tt % (8 : Int32))), .val (.int (tt / (8 : Int32))), .val (.int (1 : Int32)), .val (.int (1 : Int32))] [(.int (1 : Int32))]))
      refine Good.back (fun _ k => XS.goto X4.here hx rfl (pc0 := 118) (pc' := 122) rfl (hb hby at_118) (by decide) (by decide) k) ?_
      show Good p e below _ (T4.setTop (mkF m 122 #[.val (.long q0), .second, .val (.int p1), .val (.int tt), .val (.int (tt % (8 : Int32))), .val (.int (tt / (8 : Int32))), .val (.int (1 : Int32)), .val (.int (1 : Int32))] [(.int (1 : Int32))]))
      obtain ⟨fs5, hr5, hrun5, hended5, hW5, hsame5⟩ := X4.leave (v := some (.int (1 : Int32))) (fun h => by rw [Bd.returns] at h; cases h)
      refine Good.done (retN X4 hx (t := .boolean) Bd.returns (by simp) (hb hby at_122) hr5) hrun5 hended5 ⟨_, _, rfl, ?_, ⟨_, rfl⟩, hW5, hsame5.mono (by decide) (by decide)⟩
      show Q0 Z q0 p1 h0 n0 _ T4.heap _
      rw [eh4]
      exact ⟨rfl, N4⟩
    · rw [if_neg hb29_3]
      show Good p e below _ (T2.setTop (mkF m 29 #[.val (.long q0), .second, .val (.int p1), .val (.int tt), .val (.int (tt % (8 : Int32))), .val (.int (tt / (8 : Int32))), .unset, .unset] [(.int (0 : Int32))]))
      refine Good.back (fun _ k => XS.ifNo X2.here hx rfl (hb hby at_29) rfl ((if0 _ _).trans (teq (by decide : ((0 : Int32) = (0 : Int32)))).2) k) ?_
      show Good p e below _ (T2.setTop (mkF m 32 #[.val (.long q0), .second, .val (.int p1), .val (.int tt), .val (.int (tt % (8 : Int32))), .val (.int (tt / (8 : Int32))), .unset, .unset] []))
      refine Good.back (fun _ k => XS.iload X2.here hx rfl (hb hby at_32) rfl k) ?_
      show Good p e below _ (T2.setTop (mkF m 34 #[.val (.long q0), .second, .val (.int p1), .val (.int tt), .val (.int (tt % (8 : Int32))), .val (.int (tt / (8 : Int32))), .unset, .unset] [(.int (tt % (8 : Int32)))]))
      refine Good.back (fun _ k => XS.bipush X2.here hx rfl (hb hby at_34) k) ?_
      show Good p e below _ (T2.setTop (mkF m 36 #[.val (.long q0), .second, .val (.int p1), .val (.int tt), .val (.int (tt % (8 : Int32))), .val (.int (tt / (8 : Int32))), .unset, .unset] [(.int (7 : Int32)), (.int (tt % (8 : Int32)))]))
      by_cases hc36_6 : (tt % (8 : Int32)) < (7 : Int32)
      · refine Good.back (fun _ k => XS.icmpNo X2.here hx rfl (hb hby at_36) rfl (tlt hc36_6).2.1 k) ?_
        show Good p e below _ (T2.setTop (mkF m 39 #[.val (.long q0), .second, .val (.int p1), .val (.int tt), .val (.int (tt % (8 : Int32))), .val (.int (tt / (8 : Int32))), .unset, .unset] []))
        refine Good.back (fun _ k => XS.lloadN X2.here hx rfl (hb hby at_39) rfl k) ?_
        show Good p e below _ (T2.setTop (mkF m 40 #[.val (.long q0), .second, .val (.int p1), .val (.int tt), .val (.int (tt % (8 : Int32))), .val (.int (tt / (8 : Int32))), .unset, .unset] [(.long q0)]))
        refine Good.back (fun _ k => XS.iloadN X2.here hx rfl (hb hby at_40) rfl k) ?_
        show Good p e below _ (T2.setTop (mkF m 41 #[.val (.long q0), .second, .val (.int p1), .val (.int tt), .val (.int (tt % (8 : Int32))), .val (.int (tt / (8 : Int32))), .unset, .unset] [(.int tt), (.long q0)]))
        refine Good.back (fun _ k => XS.iconst X2.here hx rfl (hb hby at_41) k) ?_
        show Good p e below _ (T2.setTop (mkF m 42 #[.val (.long q0), .second, .val (.int p1), .val (.int tt), .val (.int (tt % (8 : Int32))), .val (.int (tt / (8 : Int32))), .unset, .unset] [(.int (1 : Int32)), (.int tt), (.long q0)]))
        refine Good.back (fun _ k => XS.iadd X2.here hx rfl (hb hby at_42) rfl k) ?_
        show Good p e below _ (T2.setTop (mkF m 43 #[.val (.long q0), .second, .val (.int p1), .val (.int tt), .val (.int (tt % (8 : Int32))), .val (.int (tt / (8 : Int32))), .unset, .unset] [(.int (tt + (1 : Int32))), (.long q0)]))
        obtain ⟨_, _, ⟨T7, L7, k7, n7⟩, -, X7, ⟨Lc7, hQ7, l7, y7, z7⟩, st7⟩ := Jvm.LawKit.callS X2 hx (y := (⟨"com/example/trinode/trinode/troll/BoardNeighboursPinLaw", "has", "(JI)Z"⟩ : MethodName)) hown (mvT hZ (hw _ (List.mem_of_getElem? (i := 0) rfl))) (mvT hZ (hw _ (List.mem_of_getElem? (i := 1) rfl))) (mvT hZ (hw _ (List.mem_of_getElem? (i := 2) rfl))) (mvT hZ (hw _ (List.mem_of_getElem? (i := 3) rfl))) (by decide) (backOf (W := 0) (rm1 l Z a0 hw [] q0 (tt + (1 : Int32))  h0 n0 Z0 ) hZ (hw _ (List.mem_of_getElem? (i := 3) rfl)) (hw _ (List.mem_of_getElem? (i := 2) rfl)) (by decide) (by decide)) (g := (mkF m 43 #[.val (.long q0), .second, .val (.int p1), .val (.int tt), .val (.int (tt % (8 : Int32))), .val (.int (tt / (8 : Int32))), .unset, .unset] [(.int (tt + (1 : Int32))), (.long q0)])) rfl (by rw [hml]; rfl) (argsL := [(.long q0), (.int (tt + (1 : Int32)))]) (rest := []) (lenOf own_pd36 rfl) rfl (by show 2 * 0 + _ ≤ _; exact Nat.le_of_eq rfl) (hb hby at_43) (fun _ _ => ⟨rfl, eh2, (by decide : 0 + 0 ≤ _), (by decide : 0 + 0 ≤ _)⟩)
        dsimp only [Pt.U, Pt.locs, Pt.cells, Pt.slots] at X7 l7 y7 z7 st7 hQ7
        subst l7 y7 z7
        obtain ⟨rfl, N7q, eh7⟩ := hQ7
        have N7 := Fr.app N2 N7q
        refine Good.back st7 ?_
        show Good p e below _ (T7.setTop (mkF m 46 #[.val (.long q0), .second, .val (.int p1), .val (.int tt), .val (.int (tt % (8 : Int32))), .val (.int (tt / (8 : Int32))), .unset, .unset] [(.int (if own_has q0 (tt + (1 : Int32)) then (1 : Int32) else (0 : Int32)))]))
        by_cases hb46_8 : own_has q0 (tt + (1 : Int32))
        · rw [if_pos hb46_8]
          show Good p e below _ (T7.setTop (mkF m 46 #[.val (.long q0), .second, .val (.int p1), .val (.int tt), .val (.int (tt % (8 : Int32))), .val (.int (tt / (8 : Int32))), .unset, .unset] [(.int (1 : Int32))]))
          refine Good.back (fun _ k => XS.ifYes X7.here hx rfl (pc0 := 46) (pc' := 83) rfl (hb hby at_46) rfl ((if0 _ _).trans (feq (by decide : ¬ ((1 : Int32) = (0 : Int32)))).2) (by decide) (by decide) k) ?_
          show Good p e below _ (T7.setTop (mkF m 83 #[.val (.long q0), .second, .val (.int p1), .val (.int tt), .val (.int (tt % (8 : Int32))), .val (.int (tt / (8 : Int32))), .unset, .unset] []))
          refine Good.back (fun _ k => XS.iconst X7.here hx rfl (hb hby at_83) k) ?_
          show Good p e below _ (T7.setTop (mkF m 84 #[.val (.long q0), .second, .val (.int p1), .val (.int tt), .val (.int (tt % (8 : Int32))), .val (.int (tt / (8 : Int32))), .unset, .unset] [(.int (1 : Int32))]))
          refine Good.back (fun _ k => XS.goto X7.here hx rfl (pc0 := 84) (pc' := 88) rfl (hb hby at_84) (by decide) (by decide) k) ?_
          show Good p e below _ (T7.setTop (mkF m 88 #[.val (.long q0), .second, .val (.int p1), .val (.int tt), .val (.int (tt % (8 : Int32))), .val (.int (tt / (8 : Int32))), .unset, .unset] [(.int (1 : Int32))]))
          refine Good.back (fun _ k => XS.istore X7.here hx rfl (hb hby at_88) rfl (l' := #[.val (.long q0), .second, .val (.int p1), .val (.int tt), .val (.int (tt % (8 : Int32))), .val (.int (tt / (8 : Int32))), .val (.int (1 : Int32)), .unset]) rfl k) ?_
          show Good p e below _ (T7.setTop (mkF m 90 #[.val (.long q0), .second, .val (.int p1), .val (.int tt), .val (.int (tt % (8 : Int32))), .val (.int (tt / (8 : Int32))), .val (.int (1 : Int32)), .unset] []))
          refine Good.back (fun _ k => XS.lloadN X7.here hx rfl (hb hby at_90) rfl k) ?_
          show Good p e below _ (T7.setTop (mkF m 91 #[.val (.long q0), .second, .val (.int p1), .val (.int tt), .val (.int (tt % (8 : Int32))), .val (.int (tt / (8 : Int32))), .val (.int (1 : Int32)), .unset] [(.long q0)]))
          obtain ⟨_, _, ⟨T9, L9, k9, n9⟩, -, X9, ⟨Lc9, hQ9, l9, y9, z9⟩, st9⟩ := Jvm.LawKit.callS X7 hx (y := (⟨"com/example/trinode/trinode/troll/Board", "neighbours", "(J)J"⟩ : MethodName)) hown (mvT hZ (hw _ (List.mem_of_getElem? (i := 4) rfl))) (mvT hZ (hw _ (List.mem_of_getElem? (i := 5) rfl))) (mvT hZ (hw _ (List.mem_of_getElem? (i := 6) rfl))) (mvT hZ (hw _ (List.mem_of_getElem? (i := 7) rfl))) (by decide) (backOf (W := 0) (rm2 l Z a0 hw [] q0  h0 n0 Z0 ) hZ (hw _ (List.mem_of_getElem? (i := 7) rfl)) (hw _ (List.mem_of_getElem? (i := 6) rfl)) (by decide) (by decide)) (g := (mkF m 91 #[.val (.long q0), .second, .val (.int p1), .val (.int tt), .val (.int (tt % (8 : Int32))), .val (.int (tt / (8 : Int32))), .val (.int (1 : Int32)), .unset] [(.long q0)])) rfl (by rw [hml]; rfl) (argsL := [(.long q0)]) (rest := []) (lenOf own_pd37 rfl) rfl (by show 2 * 0 + _ ≤ _; exact Nat.le_of_eq rfl) (hb hby at_91) (fun _ _ => ⟨rfl, eh7, (by decide : 0 + 0 ≤ _), (by decide : 0 + 0 ≤ _)⟩)
          dsimp only [Pt.U, Pt.locs, Pt.cells, Pt.slots] at X9 l9 y9 z9 st9 hQ9
          subst l9 y9 z9
          obtain ⟨rfl, N9q, eh9⟩ := hQ9
          have N9 := Fr.app N7 N9q
          refine Good.back st9 ?_
          show Good p e below _ (T9.setTop (mkF m 94 #[.val (.long q0), .second, .val (.int p1), .val (.int tt), .val (.int (tt % (8 : Int32))), .val (.int (tt / (8 : Int32))), .val (.int (1 : Int32)), .unset] [(.long (own_nb q0))]))
          refine Good.back (fun _ k => XS.iloadN X9.here hx rfl (hb hby at_94) rfl k) ?_
          show Good p e below _ (T9.setTop (mkF m 95 #[.val (.long q0), .second, .val (.int p1), .val (.int tt), .val (.int (tt % (8 : Int32))), .val (.int (tt / (8 : Int32))), .val (.int (1 : Int32)), .unset] [(.int tt), (.long (own_nb q0))]))
          refine Good.back (fun _ k => XS.lushr X9.here hx rfl (hb hby at_95) rfl k) ?_
          show Good p e below _ (T9.setTop (mkF m 96 #[.val (.long q0), .second, .val (.int p1), .val (.int tt), .val (.int (tt % (8 : Int32))), .val (.int (tt / (8 : Int32))), .val (.int (1 : Int32)), .unset] [(.long (((own_nb q0).toUInt64 >>> (tt &&& 0x3f).toInt64.toUInt64).toInt64))]))
          refine Good.back (fun _ k => XS.lconst X9.here hx rfl (hb hby at_96) k) ?_
          show Good p e below _ (T9.setTop (mkF m 97 #[.val (.long q0), .second, .val (.int p1), .val (.int tt), .val (.int (tt % (8 : Int32))), .val (.int (tt / (8 : Int32))), .val (.int (1 : Int32)), .unset] [(.long (1 : Int64)), (.long (((own_nb q0).toUInt64 >>> (tt &&& 0x3f).toInt64.toUInt64).toInt64))]))
          refine Good.back (fun _ k => XS.land X9.here hx rfl (hb hby at_97) rfl k) ?_
          show Good p e below _ (T9.setTop (mkF m 98 #[.val (.long q0), .second, .val (.int p1), .val (.int tt), .val (.int (tt % (8 : Int32))), .val (.int (tt / (8 : Int32))), .val (.int (1 : Int32)), .unset] [(.long ((((own_nb q0).toUInt64 >>> (tt &&& 0x3f).toInt64.toUInt64).toInt64) &&& (1 : Int64)))]))
          refine Good.back (fun _ k => XS.lconst X9.here hx rfl (hb hby at_98) k) ?_
          show Good p e below _ (T9.setTop (mkF m 99 #[.val (.long q0), .second, .val (.int p1), .val (.int tt), .val (.int (tt % (8 : Int32))), .val (.int (tt / (8 : Int32))), .val (.int (1 : Int32)), .unset] [(.long (0 : Int64)), (.long ((((own_nb q0).toUInt64 >>> (tt &&& 0x3f).toInt64.toUInt64).toInt64) &&& (1 : Int64)))]))
          refine Good.back (fun _ k => XS.lcmp X9.here hx rfl (hb hby at_99) rfl k) ?_
          show Good p e below _ (T9.setTop (mkF m 100 #[.val (.long q0), .second, .val (.int p1), .val (.int tt), .val (.int (tt % (8 : Int32))), .val (.int (tt / (8 : Int32))), .val (.int (1 : Int32)), .unset] [(.int (lcmpW ((((own_nb q0).toUInt64 >>> (tt &&& 0x3f).toInt64.toUInt64).toInt64) &&& (1 : Int64)) (0 : Int64)))]))
          refine Good.back (fun _ k => XS.ifNo X9.here hx rfl (hb hby at_100) rfl ((if0 _ _).trans (feq (fun q => ((own_law q0 tt t0 t1).mpr (Or.inr (Or.inl ⟨hc36_6, hb46_8⟩))) ((lw_eq _ _).mp q))).1) k) ?_
          show Good p e below _ (T9.setTop (mkF m 103 #[.val (.long q0), .second, .val (.int p1), .val (.int tt), .val (.int (tt % (8 : Int32))), .val (.int (tt / (8 : Int32))), .val (.int (1 : Int32)), .unset] []))
          refine Good.back (fun _ k => XS.iconst X9.here hx rfl (hb hby at_103) k) ?_
          show Good p e below _ (T9.setTop (mkF m 104 #[.val (.long q0), .second, .val (.int p1), .val (.int tt), .val (.int (tt % (8 : Int32))), .val (.int (tt / (8 : Int32))), .val (.int (1 : Int32)), .unset] [(.int (1 : Int32))]))
          refine Good.back (fun _ k => XS.goto X9.here hx rfl (pc0 := 104) (pc' := 108) rfl (hb hby at_104) (by decide) (by decide) k) ?_
          show Good p e below _ (T9.setTop (mkF m 108 #[.val (.long q0), .second, .val (.int p1), .val (.int tt), .val (.int (tt % (8 : Int32))), .val (.int (tt / (8 : Int32))), .val (.int (1 : Int32)), .unset] [(.int (1 : Int32))]))
          refine Good.back (fun _ k => XS.istore X9.here hx rfl (hb hby at_108) rfl (l' := #[.val (.long q0), .second, .val (.int p1), .val (.int tt), .val (.int (tt % (8 : Int32))), .val (.int (tt / (8 : Int32))), .val (.int (1 : Int32)), .val (.int (1 : Int32))]) rfl k) ?_
          show Good p e below _ (T9.setTop (mkF m 110 #[.val (.long q0), .second, .val (.int p1), .val (.int tt), .val (.int (tt % (8 : Int32))), .val (.int (tt / (8 : Int32))), .val (.int (1 : Int32)), .val (.int (1 : Int32))] []))
          refine Good.back (fun _ k => XS.iload X9.here hx rfl (hb hby at_110) rfl k) ?_
          show Good p e below _ (T9.setTop (mkF m 112 #[.val (.long q0), .second, .val (.int p1), .val (.int tt), .val (.int (tt % (8 : Int32))), .val (.int (tt / (8 : Int32))), .val (.int (1 : Int32)), .val (.int (1 : Int32))] [(.int (1 : Int32))]))
          refine Good.back (fun _ k => XS.iload X9.here hx rfl (hb hby at_112) rfl k) ?_
          show Good p e below _ (T9.setTop (mkF m 114 #[.val (.long q0), .second, .val (.int p1), .val (.int tt), .val (.int (tt % (8 : Int32))), .val (.int (tt / (8 : Int32))), .val (.int (1 : Int32)), .val (.int (1 : Int32))] [(.int (1 : Int32)), (.int (1 : Int32))]))
          refine Good.back (fun _ k => XS.icmpNo X9.here hx rfl (hb hby at_114) rfl (teq (by decide : ((1 : Int32) = (1 : Int32)))).2 k) ?_
          show Good p e below _ (T9.setTop (mkF m 117 #[.val (.long q0), .second, .val (.int p1), .val (.int tt), .val (.int (tt % (8 : Int32))), .val (.int (tt / (8 : Int32))), .val (.int (1 : Int32)), .val (.int (1 : Int32))] []))
          refine Good.back (fun _ k => XS.iconst X9.here hx rfl (hb hby at_117) k) ?_
          show Good p e below _ (T9.setTop (mkF m 118 #[.val (.long q0), .second, .val (.int p1), .val (.int tt), .val (.int (tt % (8 : Int32))), .val (.int (tt / (8 : Int32))), .val (.int (1 : Int32)), .val (.int (1 : Int32))] [(.int (1 : Int32))]))
          refine Good.back (fun _ k => XS.goto X9.here hx rfl (pc0 := 118) (pc' := 122) rfl (hb hby at_118) (by decide) (by decide) k) ?_
          show Good p e below _ (T9.setTop (mkF m 122 #[.val (.long q0), .second, .val (.int p1), .val (.int tt), .val (.int (tt % (8 : Int32))), .val (.int (tt / (8 : Int32))), .val (.int (1 : Int32)), .val (.int (1 : Int32))] [(.int (1 : Int32))]))
          obtain ⟨fs10, hr10, hrun10, hended10, hW10, hsame10⟩ := X9.leave (v := some (.int (1 : Int32))) (fun h => by rw [Bd.returns] at h; cases h)
          refine Good.done (retN X9 hx (t := .boolean) Bd.returns (by simp) (hb hby at_122) hr10) hrun10 hended10 ⟨_, _, rfl, ?_, ⟨_, rfl⟩, hW10, hsame10.mono (by decide) (by decide)⟩
          show Q0 Z q0 p1 h0 n0 _ T9.heap _
          rw [eh9]
          exact ⟨rfl, N9⟩
        · rw [if_neg hb46_8]
          show Good p e below _ (T7.setTop (mkF m 46 #[.val (.long q0), .second, .val (.int p1), .val (.int tt), .val (.int (tt % (8 : Int32))), .val (.int (tt / (8 : Int32))), .unset, .unset] [(.int (0 : Int32))]))
          refine Good.back (fun _ k => XS.ifNo X7.here hx rfl (hb hby at_46) rfl ((if0 _ _).trans (teq (by decide : ((0 : Int32) = (0 : Int32)))).2) k) ?_
          show Good p e below _ (T7.setTop (mkF m 49 #[.val (.long q0), .second, .val (.int p1), .val (.int tt), .val (.int (tt % (8 : Int32))), .val (.int (tt / (8 : Int32))), .unset, .unset] []))
          refine Good.back (fun _ k => XS.iload X7.here hx rfl (hb hby at_49) rfl k) ?_
          show Good p e below _ (T7.setTop (mkF m 51 #[.val (.long q0), .second, .val (.int p1), .val (.int tt), .val (.int (tt % (8 : Int32))), .val (.int (tt / (8 : Int32))), .unset, .unset] [(.int (tt / (8 : Int32)))]))
          by_cases hc51_11 : (0 : Int32) < (tt / (8 : Int32))
          · refine Good.back (fun _ k => XS.ifNo X7.here hx rfl (hb hby at_51) rfl ((if0 _ _).trans (tlt hc51_11).2.2.2) k) ?_
            show Good p e below _ (T7.setTop (mkF m 54 #[.val (.long q0), .second, .val (.int p1), .val (.int tt), .val (.int (tt % (8 : Int32))), .val (.int (tt / (8 : Int32))), .unset, .unset] []))
            refine Good.back (fun _ k => XS.lloadN X7.here hx rfl (hb hby at_54) rfl k) ?_
            show Good p e below _ (T7.setTop (mkF m 55 #[.val (.long q0), .second, .val (.int p1), .val (.int tt), .val (.int (tt % (8 : Int32))), .val (.int (tt / (8 : Int32))), .unset, .unset] [(.long q0)]))
            refine Good.back (fun _ k => XS.iloadN X7.here hx rfl (hb hby at_55) rfl k) ?_
            show Good p e below _ (T7.setTop (mkF m 56 #[.val (.long q0), .second, .val (.int p1), .val (.int tt), .val (.int (tt % (8 : Int32))), .val (.int (tt / (8 : Int32))), .unset, .unset] [(.int tt), (.long q0)]))
            refine Good.back (fun _ k => XS.bipush X7.here hx rfl (hb hby at_56) k) ?_
            show Good p e below _ (T7.setTop (mkF m 58 #[.val (.long q0), .second, .val (.int p1), .val (.int tt), .val (.int (tt % (8 : Int32))), .val (.int (tt / (8 : Int32))), .unset, .unset] [(.int (8 : Int32)), (.int tt), (.long q0)]))
            refine Good.back (fun _ k => XS.isub X7.here hx rfl (hb hby at_58) rfl k) ?_
            show Good p e below _ (T7.setTop (mkF m 59 #[.val (.long q0), .second, .val (.int p1), .val (.int tt), .val (.int (tt % (8 : Int32))), .val (.int (tt / (8 : Int32))), .unset, .unset] [(.int (tt - (8 : Int32))), (.long q0)]))
            obtain ⟨_, _, ⟨T12, L12, k12, n12⟩, -, X12, ⟨Lc12, hQ12, l12, y12, z12⟩, st12⟩ := Jvm.LawKit.callS X7 hx (y := (⟨"com/example/trinode/trinode/troll/BoardNeighboursPinLaw", "has", "(JI)Z"⟩ : MethodName)) hown (mvT hZ (hw _ (List.mem_of_getElem? (i := 0) rfl))) (mvT hZ (hw _ (List.mem_of_getElem? (i := 1) rfl))) (mvT hZ (hw _ (List.mem_of_getElem? (i := 2) rfl))) (mvT hZ (hw _ (List.mem_of_getElem? (i := 3) rfl))) (by decide) (backOf (W := 0) (rm1 l Z a0 hw [] q0 (tt - (8 : Int32))  h0 n0 Z0 ) hZ (hw _ (List.mem_of_getElem? (i := 3) rfl)) (hw _ (List.mem_of_getElem? (i := 2) rfl)) (by decide) (by decide)) (g := (mkF m 59 #[.val (.long q0), .second, .val (.int p1), .val (.int tt), .val (.int (tt % (8 : Int32))), .val (.int (tt / (8 : Int32))), .unset, .unset] [(.int (tt - (8 : Int32))), (.long q0)])) rfl (by rw [hml]; rfl) (argsL := [(.long q0), (.int (tt - (8 : Int32)))]) (rest := []) (lenOf own_pd36 rfl) rfl (by show 2 * 0 + _ ≤ _; exact Nat.le_of_eq rfl) (hb hby at_59) (fun _ _ => ⟨rfl, eh7, (by decide : 0 + 0 ≤ _), (by decide : 0 + 0 ≤ _)⟩)
            dsimp only [Pt.U, Pt.locs, Pt.cells, Pt.slots] at X12 l12 y12 z12 st12 hQ12
            subst l12 y12 z12
            obtain ⟨rfl, N12q, eh12⟩ := hQ12
            have N12 := Fr.app N7 N12q
            refine Good.back st12 ?_
            show Good p e below _ (T12.setTop (mkF m 62 #[.val (.long q0), .second, .val (.int p1), .val (.int tt), .val (.int (tt % (8 : Int32))), .val (.int (tt / (8 : Int32))), .unset, .unset] [(.int (if own_has q0 (tt - (8 : Int32)) then (1 : Int32) else (0 : Int32)))]))
            by_cases hb62_13 : own_has q0 (tt - (8 : Int32))
            · rw [if_pos hb62_13]
              show Good p e below _ (T12.setTop (mkF m 62 #[.val (.long q0), .second, .val (.int p1), .val (.int tt), .val (.int (tt % (8 : Int32))), .val (.int (tt / (8 : Int32))), .unset, .unset] [(.int (1 : Int32))]))
              refine Good.back (fun _ k => XS.ifYes X12.here hx rfl (pc0 := 62) (pc' := 83) rfl (hb hby at_62) rfl ((if0 _ _).trans (feq (by decide : ¬ ((1 : Int32) = (0 : Int32)))).2) (by decide) (by decide) k) ?_
              show Good p e below _ (T12.setTop (mkF m 83 #[.val (.long q0), .second, .val (.int p1), .val (.int tt), .val (.int (tt % (8 : Int32))), .val (.int (tt / (8 : Int32))), .unset, .unset] []))
              refine Good.back (fun _ k => XS.iconst X12.here hx rfl (hb hby at_83) k) ?_
              show Good p e below _ (T12.setTop (mkF m 84 #[.val (.long q0), .second, .val (.int p1), .val (.int tt), .val (.int (tt % (8 : Int32))), .val (.int (tt / (8 : Int32))), .unset, .unset] [(.int (1 : Int32))]))
              refine Good.back (fun _ k => XS.goto X12.here hx rfl (pc0 := 84) (pc' := 88) rfl (hb hby at_84) (by decide) (by decide) k) ?_
              show Good p e below _ (T12.setTop (mkF m 88 #[.val (.long q0), .second, .val (.int p1), .val (.int tt), .val (.int (tt % (8 : Int32))), .val (.int (tt / (8 : Int32))), .unset, .unset] [(.int (1 : Int32))]))
              refine Good.back (fun _ k => XS.istore X12.here hx rfl (hb hby at_88) rfl (l' := #[.val (.long q0), .second, .val (.int p1), .val (.int tt), .val (.int (tt % (8 : Int32))), .val (.int (tt / (8 : Int32))), .val (.int (1 : Int32)), .unset]) rfl k) ?_
              show Good p e below _ (T12.setTop (mkF m 90 #[.val (.long q0), .second, .val (.int p1), .val (.int tt), .val (.int (tt % (8 : Int32))), .val (.int (tt / (8 : Int32))), .val (.int (1 : Int32)), .unset] []))
              refine Good.back (fun _ k => XS.lloadN X12.here hx rfl (hb hby at_90) rfl k) ?_
              show Good p e below _ (T12.setTop (mkF m 91 #[.val (.long q0), .second, .val (.int p1), .val (.int tt), .val (.int (tt % (8 : Int32))), .val (.int (tt / (8 : Int32))), .val (.int (1 : Int32)), .unset] [(.long q0)]))
              obtain ⟨_, _, ⟨T14, L14, k14, n14⟩, -, X14, ⟨Lc14, hQ14, l14, y14, z14⟩, st14⟩ := Jvm.LawKit.callS X12 hx (y := (⟨"com/example/trinode/trinode/troll/Board", "neighbours", "(J)J"⟩ : MethodName)) hown (mvT hZ (hw _ (List.mem_of_getElem? (i := 4) rfl))) (mvT hZ (hw _ (List.mem_of_getElem? (i := 5) rfl))) (mvT hZ (hw _ (List.mem_of_getElem? (i := 6) rfl))) (mvT hZ (hw _ (List.mem_of_getElem? (i := 7) rfl))) (by decide) (backOf (W := 0) (rm2 l Z a0 hw [] q0  h0 n0 Z0 ) hZ (hw _ (List.mem_of_getElem? (i := 7) rfl)) (hw _ (List.mem_of_getElem? (i := 6) rfl)) (by decide) (by decide)) (g := (mkF m 91 #[.val (.long q0), .second, .val (.int p1), .val (.int tt), .val (.int (tt % (8 : Int32))), .val (.int (tt / (8 : Int32))), .val (.int (1 : Int32)), .unset] [(.long q0)])) rfl (by rw [hml]; rfl) (argsL := [(.long q0)]) (rest := []) (lenOf own_pd37 rfl) rfl (by show 2 * 0 + _ ≤ _; exact Nat.le_of_eq rfl) (hb hby at_91) (fun _ _ => ⟨rfl, eh12, (by decide : 0 + 0 ≤ _), (by decide : 0 + 0 ≤ _)⟩)
              dsimp only [Pt.U, Pt.locs, Pt.cells, Pt.slots] at X14 l14 y14 z14 st14 hQ14
              subst l14 y14 z14
              obtain ⟨rfl, N14q, eh14⟩ := hQ14
              have N14 := Fr.app N12 N14q
              refine Good.back st14 ?_
              show Good p e below _ (T14.setTop (mkF m 94 #[.val (.long q0), .second, .val (.int p1), .val (.int tt), .val (.int (tt % (8 : Int32))), .val (.int (tt / (8 : Int32))), .val (.int (1 : Int32)), .unset] [(.long (own_nb q0))]))
              refine Good.back (fun _ k => XS.iloadN X14.here hx rfl (hb hby at_94) rfl k) ?_
              show Good p e below _ (T14.setTop (mkF m 95 #[.val (.long q0), .second, .val (.int p1), .val (.int tt), .val (.int (tt % (8 : Int32))), .val (.int (tt / (8 : Int32))), .val (.int (1 : Int32)), .unset] [(.int tt), (.long (own_nb q0))]))
              refine Good.back (fun _ k => XS.lushr X14.here hx rfl (hb hby at_95) rfl k) ?_
              show Good p e below _ (T14.setTop (mkF m 96 #[.val (.long q0), .second, .val (.int p1), .val (.int tt), .val (.int (tt % (8 : Int32))), .val (.int (tt / (8 : Int32))), .val (.int (1 : Int32)), .unset] [(.long (((own_nb q0).toUInt64 >>> (tt &&& 0x3f).toInt64.toUInt64).toInt64))]))
              refine Good.back (fun _ k => XS.lconst X14.here hx rfl (hb hby at_96) k) ?_
              show Good p e below _ (T14.setTop (mkF m 97 #[.val (.long q0), .second, .val (.int p1), .val (.int tt), .val (.int (tt % (8 : Int32))), .val (.int (tt / (8 : Int32))), .val (.int (1 : Int32)), .unset] [(.long (1 : Int64)), (.long (((own_nb q0).toUInt64 >>> (tt &&& 0x3f).toInt64.toUInt64).toInt64))]))
              refine Good.back (fun _ k => XS.land X14.here hx rfl (hb hby at_97) rfl k) ?_
              show Good p e below _ (T14.setTop (mkF m 98 #[.val (.long q0), .second, .val (.int p1), .val (.int tt), .val (.int (tt % (8 : Int32))), .val (.int (tt / (8 : Int32))), .val (.int (1 : Int32)), .unset] [(.long ((((own_nb q0).toUInt64 >>> (tt &&& 0x3f).toInt64.toUInt64).toInt64) &&& (1 : Int64)))]))
              refine Good.back (fun _ k => XS.lconst X14.here hx rfl (hb hby at_98) k) ?_
              show Good p e below _ (T14.setTop (mkF m 99 #[.val (.long q0), .second, .val (.int p1), .val (.int tt), .val (.int (tt % (8 : Int32))), .val (.int (tt / (8 : Int32))), .val (.int (1 : Int32)), .unset] [(.long (0 : Int64)), (.long ((((own_nb q0).toUInt64 >>> (tt &&& 0x3f).toInt64.toUInt64).toInt64) &&& (1 : Int64)))]))
              refine Good.back (fun _ k => XS.lcmp X14.here hx rfl (hb hby at_99) rfl k) ?_
              show Good p e below _ (T14.setTop (mkF m 100 #[.val (.long q0), .second, .val (.int p1), .val (.int tt), .val (.int (tt % (8 : Int32))), .val (.int (tt / (8 : Int32))), .val (.int (1 : Int32)), .unset] [(.int (lcmpW ((((own_nb q0).toUInt64 >>> (tt &&& 0x3f).toInt64.toUInt64).toInt64) &&& (1 : Int64)) (0 : Int64)))]))
              refine Good.back (fun _ k => XS.ifNo X14.here hx rfl (hb hby at_100) rfl ((if0 _ _).trans (feq (fun q => ((own_law q0 tt t0 t1).mpr (Or.inr (Or.inr (Or.inl ⟨hc51_11, hb62_13⟩)))) ((lw_eq _ _).mp q))).1) k) ?_
              show Good p e below _ (T14.setTop (mkF m 103 #[.val (.long q0), .second, .val (.int p1), .val (.int tt), .val (.int (tt % (8 : Int32))), .val (.int (tt / (8 : Int32))), .val (.int (1 : Int32)), .unset] []))
              refine Good.back (fun _ k => XS.iconst X14.here hx rfl (hb hby at_103) k) ?_
              show Good p e below _ (T14.setTop (mkF m 104 #[.val (.long q0), .second, .val (.int p1), .val (.int tt), .val (.int (tt % (8 : Int32))), .val (.int (tt / (8 : Int32))), .val (.int (1 : Int32)), .unset] [(.int (1 : Int32))]))
              refine Good.back (fun _ k => XS.goto X14.here hx rfl (pc0 := 104) (pc' := 108) rfl (hb hby at_104) (by decide) (by decide) k) ?_
              show Good p e below _ (T14.setTop (mkF m 108 #[.val (.long q0), .second, .val (.int p1), .val (.int tt), .val (.int (tt % (8 : Int32))), .val (.int (tt / (8 : Int32))), .val (.int (1 : Int32)), .unset] [(.int (1 : Int32))]))
              refine Good.back (fun _ k => XS.istore X14.here hx rfl (hb hby at_108) rfl (l' := #[.val (.long q0), .second, .val (.int p1), .val (.int tt), .val (.int (tt % (8 : Int32))), .val (.int (tt / (8 : Int32))), .val (.int (1 : Int32)), .val (.int (1 : Int32))]) rfl k) ?_
              show Good p e below _ (T14.setTop (mkF m 110 #[.val (.long q0), .second, .val (.int p1), .val (.int tt), .val (.int (tt % (8 : Int32))), .val (.int (tt / (8 : Int32))), .val (.int (1 : Int32)), .val (.int (1 : Int32))] []))
              refine Good.back (fun _ k => XS.iload X14.here hx rfl (hb hby at_110) rfl k) ?_
              show Good p e below _ (T14.setTop (mkF m 112 #[.val (.long q0), .second, .val (.int p1), .val (.int tt), .val (.int (tt % (8 : Int32))), .val (.int (tt / (8 : Int32))), .val (.int (1 : Int32)), .val (.int (1 : Int32))] [(.int (1 : Int32))]))
              refine Good.back (fun _ k => XS.iload X14.here hx rfl (hb hby at_112) rfl k) ?_
              show Good p e below _ (T14.setTop (mkF m 114 #[.val (.long q0), .second, .val (.int p1), .val (.int tt), .val (.int (tt % (8 : Int32))), .val (.int (tt / (8 : Int32))), .val (.int (1 : Int32)), .val (.int (1 : Int32))] [(.int (1 : Int32)), (.int (1 : Int32))]))
              refine Good.back (fun _ k => XS.icmpNo X14.here hx rfl (hb hby at_114) rfl (teq (by decide : ((1 : Int32) = (1 : Int32)))).2 k) ?_
              show Good p e below _ (T14.setTop (mkF m 117 #[.val (.long q0), .second, .val (.int p1), .val (.int tt), .val (.int (tt % (8 : Int32))), .val (.int (tt / (8 : Int32))), .val (.int (1 : Int32)), .val (.int (1 : Int32))] []))
              refine Good.back (fun _ k => XS.iconst X14.here hx rfl (hb hby at_117) k) ?_
              show Good p e below _ (T14.setTop (mkF m 118 #[.val (.long q0), .second, .val (.int p1), .val (.int tt), .val (.int (tt % (8 : Int32))), .val (.int (tt / (8 : Int32))), .val (.int (1 : Int32)), .val (.int (1 : Int32))] [(.int (1 : Int32))]))
              refine Good.back (fun _ k => XS.goto X14.here hx rfl (pc0 := 118) (pc' := 122) rfl (hb hby at_118) (by decide) (by decide) k) ?_
              show Good p e below _ (T14.setTop (mkF m 122 #[.val (.long q0), .second, .val (.int p1), .val (.int tt), .val (.int (tt % (8 : Int32))), .val (.int (tt / (8 : Int32))), .val (.int (1 : Int32)), .val (.int (1 : Int32))] [(.int (1 : Int32))]))
              obtain ⟨fs15, hr15, hrun15, hended15, hW15, hsame15⟩ := X14.leave (v := some (.int (1 : Int32))) (fun h => by rw [Bd.returns] at h; cases h)
              refine Good.done (retN X14 hx (t := .boolean) Bd.returns (by simp) (hb hby at_122) hr15) hrun15 hended15 ⟨_, _, rfl, ?_, ⟨_, rfl⟩, hW15, hsame15.mono (by decide) (by decide)⟩
              show Q0 Z q0 p1 h0 n0 _ T14.heap _
              rw [eh14]
              exact ⟨rfl, N14⟩
            · rw [if_neg hb62_13]
              show Good p e below _ (T12.setTop (mkF m 62 #[.val (.long q0), .second, .val (.int p1), .val (.int tt), .val (.int (tt % (8 : Int32))), .val (.int (tt / (8 : Int32))), .unset, .unset] [(.int (0 : Int32))]))
              refine Good.back (fun _ k => XS.ifNo X12.here hx rfl (hb hby at_62) rfl ((if0 _ _).trans (teq (by decide : ((0 : Int32) = (0 : Int32)))).2) k) ?_
              show Good p e below _ (T12.setTop (mkF m 65 #[.val (.long q0), .second, .val (.int p1), .val (.int tt), .val (.int (tt % (8 : Int32))), .val (.int (tt / (8 : Int32))), .unset, .unset] []))
              refine Good.back (fun _ k => XS.iload X12.here hx rfl (hb hby at_65) rfl k) ?_
              show Good p e below _ (T12.setTop (mkF m 67 #[.val (.long q0), .second, .val (.int p1), .val (.int tt), .val (.int (tt % (8 : Int32))), .val (.int (tt / (8 : Int32))), .unset, .unset] [(.int (tt / (8 : Int32)))]))
              refine Good.back (fun _ k => XS.bipush X12.here hx rfl (hb hby at_67) k) ?_
              show Good p e below _ (T12.setTop (mkF m 69 #[.val (.long q0), .second, .val (.int p1), .val (.int tt), .val (.int (tt % (8 : Int32))), .val (.int (tt / (8 : Int32))), .unset, .unset] [(.int (7 : Int32)), (.int (tt / (8 : Int32)))]))
              by_cases hc69_16 : (tt / (8 : Int32)) < (7 : Int32)
              · refine Good.back (fun _ k => XS.icmpNo X12.here hx rfl (hb hby at_69) rfl (tlt hc69_16).2.1 k) ?_
                show Good p e below _ (T12.setTop (mkF m 72 #[.val (.long q0), .second, .val (.int p1), .val (.int tt), .val (.int (tt % (8 : Int32))), .val (.int (tt / (8 : Int32))), .unset, .unset] []))
                refine Good.back (fun _ k => XS.lloadN X12.here hx rfl (hb hby at_72) rfl k) ?_
                show Good p e below _ (T12.setTop (mkF m 73 #[.val (.long q0), .second, .val (.int p1), .val (.int tt), .val (.int (tt % (8 : Int32))), .val (.int (tt / (8 : Int32))), .unset, .unset] [(.long q0)]))
                refine Good.back (fun _ k => XS.iloadN X12.here hx rfl (hb hby at_73) rfl k) ?_
                show Good p e below _ (T12.setTop (mkF m 74 #[.val (.long q0), .second, .val (.int p1), .val (.int tt), .val (.int (tt % (8 : Int32))), .val (.int (tt / (8 : Int32))), .unset, .unset] [(.int tt), (.long q0)]))
                refine Good.back (fun _ k => XS.bipush X12.here hx rfl (hb hby at_74) k) ?_
                show Good p e below _ (T12.setTop (mkF m 76 #[.val (.long q0), .second, .val (.int p1), .val (.int tt), .val (.int (tt % (8 : Int32))), .val (.int (tt / (8 : Int32))), .unset, .unset] [(.int (8 : Int32)), (.int tt), (.long q0)]))
                refine Good.back (fun _ k => XS.iadd X12.here hx rfl (hb hby at_76) rfl k) ?_
                show Good p e below _ (T12.setTop (mkF m 77 #[.val (.long q0), .second, .val (.int p1), .val (.int tt), .val (.int (tt % (8 : Int32))), .val (.int (tt / (8 : Int32))), .unset, .unset] [(.int (tt + (8 : Int32))), (.long q0)]))
                obtain ⟨_, _, ⟨T17, L17, k17, n17⟩, -, X17, ⟨Lc17, hQ17, l17, y17, z17⟩, st17⟩ := Jvm.LawKit.callS X12 hx (y := (⟨"com/example/trinode/trinode/troll/BoardNeighboursPinLaw", "has", "(JI)Z"⟩ : MethodName)) hown (mvT hZ (hw _ (List.mem_of_getElem? (i := 0) rfl))) (mvT hZ (hw _ (List.mem_of_getElem? (i := 1) rfl))) (mvT hZ (hw _ (List.mem_of_getElem? (i := 2) rfl))) (mvT hZ (hw _ (List.mem_of_getElem? (i := 3) rfl))) (by decide) (backOf (W := 0) (rm1 l Z a0 hw [] q0 (tt + (8 : Int32))  h0 n0 Z0 ) hZ (hw _ (List.mem_of_getElem? (i := 3) rfl)) (hw _ (List.mem_of_getElem? (i := 2) rfl)) (by decide) (by decide)) (g := (mkF m 77 #[.val (.long q0), .second, .val (.int p1), .val (.int tt), .val (.int (tt % (8 : Int32))), .val (.int (tt / (8 : Int32))), .unset, .unset] [(.int (tt + (8 : Int32))), (.long q0)])) rfl (by rw [hml]; rfl) (argsL := [(.long q0), (.int (tt + (8 : Int32)))]) (rest := []) (lenOf own_pd36 rfl) rfl (by show 2 * 0 + _ ≤ _; exact Nat.le_of_eq rfl) (hb hby at_77) (fun _ _ => ⟨rfl, eh12, (by decide : 0 + 0 ≤ _), (by decide : 0 + 0 ≤ _)⟩)
                dsimp only [Pt.U, Pt.locs, Pt.cells, Pt.slots] at X17 l17 y17 z17 st17 hQ17
                subst l17 y17 z17
                obtain ⟨rfl, N17q, eh17⟩ := hQ17
                have N17 := Fr.app N12 N17q
                refine Good.back st17 ?_
                show Good p e below _ (T17.setTop (mkF m 80 #[.val (.long q0), .second, .val (.int p1), .val (.int tt), .val (.int (tt % (8 : Int32))), .val (.int (tt / (8 : Int32))), .unset, .unset] [(.int (if own_has q0 (tt + (8 : Int32)) then (1 : Int32) else (0 : Int32)))]))
                by_cases hb80_18 : own_has q0 (tt + (8 : Int32))
                · rw [if_pos hb80_18]
                  show Good p e below _ (T17.setTop (mkF m 80 #[.val (.long q0), .second, .val (.int p1), .val (.int tt), .val (.int (tt % (8 : Int32))), .val (.int (tt / (8 : Int32))), .unset, .unset] [(.int (1 : Int32))]))
                  refine Good.back (fun _ k => XS.ifNo X17.here hx rfl (hb hby at_80) rfl ((if0 _ _).trans (feq (by decide : ¬ ((1 : Int32) = (0 : Int32)))).1) k) ?_
                  show Good p e below _ (T17.setTop (mkF m 83 #[.val (.long q0), .second, .val (.int p1), .val (.int tt), .val (.int (tt % (8 : Int32))), .val (.int (tt / (8 : Int32))), .unset, .unset] []))
                  refine Good.back (fun _ k => XS.iconst X17.here hx rfl (hb hby at_83) k) ?_
                  show Good p e below _ (T17.setTop (mkF m 84 #[.val (.long q0), .second, .val (.int p1), .val (.int tt), .val (.int (tt % (8 : Int32))), .val (.int (tt / (8 : Int32))), .unset, .unset] [(.int (1 : Int32))]))
                  refine Good.back (fun _ k => XS.goto X17.here hx rfl (pc0 := 84) (pc' := 88) rfl (hb hby at_84) (by decide) (by decide) k) ?_
                  show Good p e below _ (T17.setTop (mkF m 88 #[.val (.long q0), .second, .val (.int p1), .val (.int tt), .val (.int (tt % (8 : Int32))), .val (.int (tt / (8 : Int32))), .unset, .unset] [(.int (1 : Int32))]))
                  refine Good.back (fun _ k => XS.istore X17.here hx rfl (hb hby at_88) rfl (l' := #[.val (.long q0), .second, .val (.int p1), .val (.int tt), .val (.int (tt % (8 : Int32))), .val (.int (tt / (8 : Int32))), .val (.int (1 : Int32)), .unset]) rfl k) ?_
                  show Good p e below _ (T17.setTop (mkF m 90 #[.val (.long q0), .second, .val (.int p1), .val (.int tt), .val (.int (tt % (8 : Int32))), .val (.int (tt / (8 : Int32))), .val (.int (1 : Int32)), .unset] []))
                  refine Good.back (fun _ k => XS.lloadN X17.here hx rfl (hb hby at_90) rfl k) ?_
                  show Good p e below _ (T17.setTop (mkF m 91 #[.val (.long q0), .second, .val (.int p1), .val (.int tt), .val (.int (tt % (8 : Int32))), .val (.int (tt / (8 : Int32))), .val (.int (1 : Int32)), .unset] [(.long q0)]))
                  obtain ⟨_, _, ⟨T19, L19, k19, n19⟩, -, X19, ⟨Lc19, hQ19, l19, y19, z19⟩, st19⟩ := Jvm.LawKit.callS X17 hx (y := (⟨"com/example/trinode/trinode/troll/Board", "neighbours", "(J)J"⟩ : MethodName)) hown (mvT hZ (hw _ (List.mem_of_getElem? (i := 4) rfl))) (mvT hZ (hw _ (List.mem_of_getElem? (i := 5) rfl))) (mvT hZ (hw _ (List.mem_of_getElem? (i := 6) rfl))) (mvT hZ (hw _ (List.mem_of_getElem? (i := 7) rfl))) (by decide) (backOf (W := 0) (rm2 l Z a0 hw [] q0  h0 n0 Z0 ) hZ (hw _ (List.mem_of_getElem? (i := 7) rfl)) (hw _ (List.mem_of_getElem? (i := 6) rfl)) (by decide) (by decide)) (g := (mkF m 91 #[.val (.long q0), .second, .val (.int p1), .val (.int tt), .val (.int (tt % (8 : Int32))), .val (.int (tt / (8 : Int32))), .val (.int (1 : Int32)), .unset] [(.long q0)])) rfl (by rw [hml]; rfl) (argsL := [(.long q0)]) (rest := []) (lenOf own_pd37 rfl) rfl (by show 2 * 0 + _ ≤ _; exact Nat.le_of_eq rfl) (hb hby at_91) (fun _ _ => ⟨rfl, eh17, (by decide : 0 + 0 ≤ _), (by decide : 0 + 0 ≤ _)⟩)
                  dsimp only [Pt.U, Pt.locs, Pt.cells, Pt.slots] at X19 l19 y19 z19 st19 hQ19
                  subst l19 y19 z19
                  obtain ⟨rfl, N19q, eh19⟩ := hQ19
                  have N19 := Fr.app N17 N19q
                  refine Good.back st19 ?_
                  show Good p e below _ (T19.setTop (mkF m 94 #[.val (.long q0), .second, .val (.int p1), .val (.int tt), .val (.int (tt % (8 : Int32))), .val (.int (tt / (8 : Int32))), .val (.int (1 : Int32)), .unset] [(.long (own_nb q0))]))
                  refine Good.back (fun _ k => XS.iloadN X19.here hx rfl (hb hby at_94) rfl k) ?_
                  show Good p e below _ (T19.setTop (mkF m 95 #[.val (.long q0), .second, .val (.int p1), .val (.int tt), .val (.int (tt % (8 : Int32))), .val (.int (tt / (8 : Int32))), .val (.int (1 : Int32)), .unset] [(.int tt), (.long (own_nb q0))]))
                  refine Good.back (fun _ k => XS.lushr X19.here hx rfl (hb hby at_95) rfl k) ?_
                  show Good p e below _ (T19.setTop (mkF m 96 #[.val (.long q0), .second, .val (.int p1), .val (.int tt), .val (.int (tt % (8 : Int32))), .val (.int (tt / (8 : Int32))), .val (.int (1 : Int32)), .unset] [(.long (((own_nb q0).toUInt64 >>> (tt &&& 0x3f).toInt64.toUInt64).toInt64))]))
                  refine Good.back (fun _ k => XS.lconst X19.here hx rfl (hb hby at_96) k) ?_
                  show Good p e below _ (T19.setTop (mkF m 97 #[.val (.long q0), .second, .val (.int p1), .val (.int tt), .val (.int (tt % (8 : Int32))), .val (.int (tt / (8 : Int32))), .val (.int (1 : Int32)), .unset] [(.long (1 : Int64)), (.long (((own_nb q0).toUInt64 >>> (tt &&& 0x3f).toInt64.toUInt64).toInt64))]))
                  refine Good.back (fun _ k => XS.land X19.here hx rfl (hb hby at_97) rfl k) ?_
                  show Good p e below _ (T19.setTop (mkF m 98 #[.val (.long q0), .second, .val (.int p1), .val (.int tt), .val (.int (tt % (8 : Int32))), .val (.int (tt / (8 : Int32))), .val (.int (1 : Int32)), .unset] [(.long ((((own_nb q0).toUInt64 >>> (tt &&& 0x3f).toInt64.toUInt64).toInt64) &&& (1 : Int64)))]))
                  refine Good.back (fun _ k => XS.lconst X19.here hx rfl (hb hby at_98) k) ?_
                  show Good p e below _ (T19.setTop (mkF m 99 #[.val (.long q0), .second, .val (.int p1), .val (.int tt), .val (.int (tt % (8 : Int32))), .val (.int (tt / (8 : Int32))), .val (.int (1 : Int32)), .unset] [(.long (0 : Int64)), (.long ((((own_nb q0).toUInt64 >>> (tt &&& 0x3f).toInt64.toUInt64).toInt64) &&& (1 : Int64)))]))
                  refine Good.back (fun _ k => XS.lcmp X19.here hx rfl (hb hby at_99) rfl k) ?_
                  show Good p e below _ (T19.setTop (mkF m 100 #[.val (.long q0), .second, .val (.int p1), .val (.int tt), .val (.int (tt % (8 : Int32))), .val (.int (tt / (8 : Int32))), .val (.int (1 : Int32)), .unset] [(.int (lcmpW ((((own_nb q0).toUInt64 >>> (tt &&& 0x3f).toInt64.toUInt64).toInt64) &&& (1 : Int64)) (0 : Int64)))]))
                  refine Good.back (fun _ k => XS.ifNo X19.here hx rfl (hb hby at_100) rfl ((if0 _ _).trans (feq (fun q => ((own_law q0 tt t0 t1).mpr (Or.inr (Or.inr (Or.inr (⟨hc69_16, hb80_18⟩))))) ((lw_eq _ _).mp q))).1) k) ?_
                  show Good p e below _ (T19.setTop (mkF m 103 #[.val (.long q0), .second, .val (.int p1), .val (.int tt), .val (.int (tt % (8 : Int32))), .val (.int (tt / (8 : Int32))), .val (.int (1 : Int32)), .unset] []))
                  refine Good.back (fun _ k => XS.iconst X19.here hx rfl (hb hby at_103) k) ?_
                  show Good p e below _ (T19.setTop (mkF m 104 #[.val (.long q0), .second, .val (.int p1), .val (.int tt), .val (.int (tt % (8 : Int32))), .val (.int (tt / (8 : Int32))), .val (.int (1 : Int32)), .unset] [(.int (1 : Int32))]))
                  refine Good.back (fun _ k => XS.goto X19.here hx rfl (pc0 := 104) (pc' := 108) rfl (hb hby at_104) (by decide) (by decide) k) ?_
                  show Good p e below _ (T19.setTop (mkF m 108 #[.val (.long q0), .second, .val (.int p1), .val (.int tt), .val (.int (tt % (8 : Int32))), .val (.int (tt / (8 : Int32))), .val (.int (1 : Int32)), .unset] [(.int (1 : Int32))]))
                  refine Good.back (fun _ k => XS.istore X19.here hx rfl (hb hby at_108) rfl (l' := #[.val (.long q0), .second, .val (.int p1), .val (.int tt), .val (.int (tt % (8 : Int32))), .val (.int (tt / (8 : Int32))), .val (.int (1 : Int32)), .val (.int (1 : Int32))]) rfl k) ?_
                  show Good p e below _ (T19.setTop (mkF m 110 #[.val (.long q0), .second, .val (.int p1), .val (.int tt), .val (.int (tt % (8 : Int32))), .val (.int (tt / (8 : Int32))), .val (.int (1 : Int32)), .val (.int (1 : Int32))] []))
                  refine Good.back (fun _ k => XS.iload X19.here hx rfl (hb hby at_110) rfl k) ?_
                  show Good p e below _ (T19.setTop (mkF m 112 #[.val (.long q0), .second, .val (.int p1), .val (.int tt), .val (.int (tt % (8 : Int32))), .val (.int (tt / (8 : Int32))), .val (.int (1 : Int32)), .val (.int (1 : Int32))] [(.int (1 : Int32))]))
                  refine Good.back (fun _ k => XS.iload X19.here hx rfl (hb hby at_112) rfl k) ?_
                  show Good p e below _ (T19.setTop (mkF m 114 #[.val (.long q0), .second, .val (.int p1), .val (.int tt), .val (.int (tt % (8 : Int32))), .val (.int (tt / (8 : Int32))), .val (.int (1 : Int32)), .val (.int (1 : Int32))] [(.int (1 : Int32)), (.int (1 : Int32))]))
                  refine Good.back (fun _ k => XS.icmpNo X19.here hx rfl (hb hby at_114) rfl (teq (by decide : ((1 : Int32) = (1 : Int32)))).2 k) ?_
                  show Good p e below _ (T19.setTop (mkF m 117 #[.val (.long q0), .second, .val (.int p1), .val (.int tt), .val (.int (tt % (8 : Int32))), .val (.int (tt / (8 : Int32))), .val (.int (1 : Int32)), .val (.int (1 : Int32))] []))
                  refine Good.back (fun _ k => XS.iconst X19.here hx rfl (hb hby at_117) k) ?_
                  show Good p e below _ (T19.setTop (mkF m 118 #[.val (.long q0), .second, .val (.int p1), .val (.int tt), .val (.int (tt % (8 : Int32))), .val (.int (tt / (8 : Int32))), .val (.int (1 : Int32)), .val (.int (1 : Int32))] [(.int (1 : Int32))]))
                  refine Good.back (fun _ k => XS.goto X19.here hx rfl (pc0 := 118) (pc' := 122) rfl (hb hby at_118) (by decide) (by decide) k) ?_
                  show Good p e below _ (T19.setTop (mkF m 122 #[.val (.long q0), .second, .val (.int p1), .val (.int tt), .val (.int (tt % (8 : Int32))), .val (.int (tt / (8 : Int32))), .val (.int (1 : Int32)), .val (.int (1 : Int32))] [(.int (1 : Int32))]))
                  obtain ⟨fs20, hr20, hrun20, hended20, hW20, hsame20⟩ := X19.leave (v := some (.int (1 : Int32))) (fun h => by rw [Bd.returns] at h; cases h)
                  refine Good.done (retN X19 hx (t := .boolean) Bd.returns (by simp) (hb hby at_122) hr20) hrun20 hended20 ⟨_, _, rfl, ?_, ⟨_, rfl⟩, hW20, hsame20.mono (by decide) (by decide)⟩
                  show Q0 Z q0 p1 h0 n0 _ T19.heap _
                  rw [eh19]
                  exact ⟨rfl, N19⟩
                · rw [if_neg hb80_18]
                  show Good p e below _ (T17.setTop (mkF m 80 #[.val (.long q0), .second, .val (.int p1), .val (.int tt), .val (.int (tt % (8 : Int32))), .val (.int (tt / (8 : Int32))), .unset, .unset] [(.int (0 : Int32))]))
                  refine Good.back (fun _ k => XS.ifYes X17.here hx rfl (pc0 := 80) (pc' := 87) rfl (hb hby at_80) rfl ((if0 _ _).trans (teq (by decide : ((0 : Int32) = (0 : Int32)))).1) (by decide) (by decide) k) ?_
                  show Good p e below _ (T17.setTop (mkF m 87 #[.val (.long q0), .second, .val (.int p1), .val (.int tt), .val (.int (tt % (8 : Int32))), .val (.int (tt / (8 : Int32))), .unset, .unset] []))
                  refine Good.back (fun _ k => XS.iconst X17.here hx rfl (hb hby at_87) k) ?_
                  show Good p e below _ (T17.setTop (mkF m 88 #[.val (.long q0), .second, .val (.int p1), .val (.int tt), .val (.int (tt % (8 : Int32))), .val (.int (tt / (8 : Int32))), .unset, .unset] [(.int (0 : Int32))]))
                  refine Good.back (fun _ k => XS.istore X17.here hx rfl (hb hby at_88) rfl (l' := #[.val (.long q0), .second, .val (.int p1), .val (.int tt), .val (.int (tt % (8 : Int32))), .val (.int (tt / (8 : Int32))), .val (.int (0 : Int32)), .unset]) rfl k) ?_
                  show Good p e below _ (T17.setTop (mkF m 90 #[.val (.long q0), .second, .val (.int p1), .val (.int tt), .val (.int (tt % (8 : Int32))), .val (.int (tt / (8 : Int32))), .val (.int (0 : Int32)), .unset] []))
                  refine Good.back (fun _ k => XS.lloadN X17.here hx rfl (hb hby at_90) rfl k) ?_
                  show Good p e below _ (T17.setTop (mkF m 91 #[.val (.long q0), .second, .val (.int p1), .val (.int tt), .val (.int (tt % (8 : Int32))), .val (.int (tt / (8 : Int32))), .val (.int (0 : Int32)), .unset] [(.long q0)]))
                  obtain ⟨_, _, ⟨T21, L21, k21, n21⟩, -, X21, ⟨Lc21, hQ21, l21, y21, z21⟩, st21⟩ := Jvm.LawKit.callS X17 hx (y := (⟨"com/example/trinode/trinode/troll/Board", "neighbours", "(J)J"⟩ : MethodName)) hown (mvT hZ (hw _ (List.mem_of_getElem? (i := 4) rfl))) (mvT hZ (hw _ (List.mem_of_getElem? (i := 5) rfl))) (mvT hZ (hw _ (List.mem_of_getElem? (i := 6) rfl))) (mvT hZ (hw _ (List.mem_of_getElem? (i := 7) rfl))) (by decide) (backOf (W := 0) (rm2 l Z a0 hw [] q0  h0 n0 Z0 ) hZ (hw _ (List.mem_of_getElem? (i := 7) rfl)) (hw _ (List.mem_of_getElem? (i := 6) rfl)) (by decide) (by decide)) (g := (mkF m 91 #[.val (.long q0), .second, .val (.int p1), .val (.int tt), .val (.int (tt % (8 : Int32))), .val (.int (tt / (8 : Int32))), .val (.int (0 : Int32)), .unset] [(.long q0)])) rfl (by rw [hml]; rfl) (argsL := [(.long q0)]) (rest := []) (lenOf own_pd37 rfl) rfl (by show 2 * 0 + _ ≤ _; exact Nat.le_of_eq rfl) (hb hby at_91) (fun _ _ => ⟨rfl, eh17, (by decide : 0 + 0 ≤ _), (by decide : 0 + 0 ≤ _)⟩)
                  dsimp only [Pt.U, Pt.locs, Pt.cells, Pt.slots] at X21 l21 y21 z21 st21 hQ21
                  subst l21 y21 z21
                  obtain ⟨rfl, N21q, eh21⟩ := hQ21
                  have N21 := Fr.app N17 N21q
                  refine Good.back st21 ?_
                  show Good p e below _ (T21.setTop (mkF m 94 #[.val (.long q0), .second, .val (.int p1), .val (.int tt), .val (.int (tt % (8 : Int32))), .val (.int (tt / (8 : Int32))), .val (.int (0 : Int32)), .unset] [(.long (own_nb q0))]))
                  refine Good.back (fun _ k => XS.iloadN X21.here hx rfl (hb hby at_94) rfl k) ?_
                  show Good p e below _ (T21.setTop (mkF m 95 #[.val (.long q0), .second, .val (.int p1), .val (.int tt), .val (.int (tt % (8 : Int32))), .val (.int (tt / (8 : Int32))), .val (.int (0 : Int32)), .unset] [(.int tt), (.long (own_nb q0))]))
                  refine Good.back (fun _ k => XS.lushr X21.here hx rfl (hb hby at_95) rfl k) ?_
                  show Good p e below _ (T21.setTop (mkF m 96 #[.val (.long q0), .second, .val (.int p1), .val (.int tt), .val (.int (tt % (8 : Int32))), .val (.int (tt / (8 : Int32))), .val (.int (0 : Int32)), .unset] [(.long (((own_nb q0).toUInt64 >>> (tt &&& 0x3f).toInt64.toUInt64).toInt64))]))
                  refine Good.back (fun _ k => XS.lconst X21.here hx rfl (hb hby at_96) k) ?_
                  show Good p e below _ (T21.setTop (mkF m 97 #[.val (.long q0), .second, .val (.int p1), .val (.int tt), .val (.int (tt % (8 : Int32))), .val (.int (tt / (8 : Int32))), .val (.int (0 : Int32)), .unset] [(.long (1 : Int64)), (.long (((own_nb q0).toUInt64 >>> (tt &&& 0x3f).toInt64.toUInt64).toInt64))]))
                  refine Good.back (fun _ k => XS.land X21.here hx rfl (hb hby at_97) rfl k) ?_
                  show Good p e below _ (T21.setTop (mkF m 98 #[.val (.long q0), .second, .val (.int p1), .val (.int tt), .val (.int (tt % (8 : Int32))), .val (.int (tt / (8 : Int32))), .val (.int (0 : Int32)), .unset] [(.long ((((own_nb q0).toUInt64 >>> (tt &&& 0x3f).toInt64.toUInt64).toInt64) &&& (1 : Int64)))]))
                  refine Good.back (fun _ k => XS.lconst X21.here hx rfl (hb hby at_98) k) ?_
                  show Good p e below _ (T21.setTop (mkF m 99 #[.val (.long q0), .second, .val (.int p1), .val (.int tt), .val (.int (tt % (8 : Int32))), .val (.int (tt / (8 : Int32))), .val (.int (0 : Int32)), .unset] [(.long (0 : Int64)), (.long ((((own_nb q0).toUInt64 >>> (tt &&& 0x3f).toInt64.toUInt64).toInt64) &&& (1 : Int64)))]))
                  refine Good.back (fun _ k => XS.lcmp X21.here hx rfl (hb hby at_99) rfl k) ?_
                  show Good p e below _ (T21.setTop (mkF m 100 #[.val (.long q0), .second, .val (.int p1), .val (.int tt), .val (.int (tt % (8 : Int32))), .val (.int (tt / (8 : Int32))), .val (.int (0 : Int32)), .unset] [(.int (lcmpW ((((own_nb q0).toUInt64 >>> (tt &&& 0x3f).toInt64.toUInt64).toInt64) &&& (1 : Int64)) (0 : Int64)))]))
                  have hno22 : ¬ own_has (own_nb q0) tt := fun y => by
                    rcases (own_law q0 tt t0 t1).mp y with x | x | x | x
                    · exact hb29_3 x.2
                    · exact hb46_8 x.2
                    · exact hb62_13 x.2
                    · exact hb80_18 x.2
                  refine Good.back (fun _ k => XS.ifYes X21.here hx rfl (pc0 := 100) (pc' := 107) rfl (hb hby at_100) rfl ((if0 _ _).trans (teq ((lw_eq _ _).mpr (Classical.byContradiction fun y => hno22 y) : (lcmpW ((((own_nb q0).toUInt64 >>> (tt &&& 0x3f).toInt64.toUInt64).toInt64) &&& (1 : Int64)) (0 : Int64)) = (0 : Int32))).1) (by decide) (by decide) k) ?_
                  show Good p e below _ (T21.setTop (mkF m 107 #[.val (.long q0), .second, .val (.int p1), .val (.int tt), .val (.int (tt % (8 : Int32))), .val (.int (tt / (8 : Int32))), .val (.int (0 : Int32)), .unset] []))
                  refine Good.back (fun _ k => XS.iconst X21.here hx rfl (hb hby at_107) k) ?_
                  show Good p e below _ (T21.setTop (mkF m 108 #[.val (.long q0), .second, .val (.int p1), .val (.int tt), .val (.int (tt % (8 : Int32))), .val (.int (tt / (8 : Int32))), .val (.int (0 : Int32)), .unset] [(.int (0 : Int32))]))
                  refine Good.back (fun _ k => XS.istore X21.here hx rfl (hb hby at_108) rfl (l' := #[.val (.long q0), .second, .val (.int p1), .val (.int tt), .val (.int (tt % (8 : Int32))), .val (.int (tt / (8 : Int32))), .val (.int (0 : Int32)), .val (.int (0 : Int32))]) rfl k) ?_
                  show Good p e below _ (T21.setTop (mkF m 110 #[.val (.long q0), .second, .val (.int p1), .val (.int tt), .val (.int (tt % (8 : Int32))), .val (.int (tt / (8 : Int32))), .val (.int (0 : Int32)), .val (.int (0 : Int32))] []))
                  refine Good.back (fun _ k => XS.iload X21.here hx rfl (hb hby at_110) rfl k) ?_
                  show Good p e below _ (T21.setTop (mkF m 112 #[.val (.long q0), .second, .val (.int p1), .val (.int tt), .val (.int (tt % (8 : Int32))), .val (.int (tt / (8 : Int32))), .val (.int (0 : Int32)), .val (.int (0 : Int32))] [(.int (0 : Int32))]))
                  refine Good.back (fun _ k => XS.iload X21.here hx rfl (hb hby at_112) rfl k) ?_
                  show Good p e below _ (T21.setTop (mkF m 114 #[.val (.long q0), .second, .val (.int p1), .val (.int tt), .val (.int (tt % (8 : Int32))), .val (.int (tt / (8 : Int32))), .val (.int (0 : Int32)), .val (.int (0 : Int32))] [(.int (0 : Int32)), (.int (0 : Int32))]))
                  refine Good.back (fun _ k => XS.icmpNo X21.here hx rfl (hb hby at_114) rfl (teq (by decide : ((0 : Int32) = (0 : Int32)))).2 k) ?_
                  show Good p e below _ (T21.setTop (mkF m 117 #[.val (.long q0), .second, .val (.int p1), .val (.int tt), .val (.int (tt % (8 : Int32))), .val (.int (tt / (8 : Int32))), .val (.int (0 : Int32)), .val (.int (0 : Int32))] []))
                  refine Good.back (fun _ k => XS.iconst X21.here hx rfl (hb hby at_117) k) ?_
                  show Good p e below _ (T21.setTop (mkF m 118 #[.val (.long q0), .second, .val (.int p1), .val (.int tt), .val (.int (tt % (8 : Int32))), .val (.int (tt / (8 : Int32))), .val (.int (0 : Int32)), .val (.int (0 : Int32))] [(.int (1 : Int32))]))
                  refine Good.back (fun _ k => XS.goto X21.here hx rfl (pc0 := 118) (pc' := 122) rfl (hb hby at_118) (by decide) (by decide) k) ?_
                  show Good p e below _ (T21.setTop (mkF m 122 #[.val (.long q0), .second, .val (.int p1), .val (.int tt), .val (.int (tt % (8 : Int32))), .val (.int (tt / (8 : Int32))), .val (.int (0 : Int32)), .val (.int (0 : Int32))] [(.int (1 : Int32))]))
                  obtain ⟨fs23, hr23, hrun23, hended23, hW23, hsame23⟩ := X21.leave (v := some (.int (1 : Int32))) (fun h => by rw [Bd.returns] at h; cases h)
                  refine Good.done (retN X21 hx (t := .boolean) Bd.returns (by simp) (hb hby at_122) hr23) hrun23 hended23 ⟨_, _, rfl, ?_, ⟨_, rfl⟩, hW23, hsame23.mono (by decide) (by decide)⟩
                  show Q0 Z q0 p1 h0 n0 _ T21.heap _
                  rw [eh21]
                  exact ⟨rfl, N21⟩
              · refine Good.back (fun _ k => XS.icmpYes X12.here hx rfl (pc0 := 69) (pc' := 87) rfl (hb hby at_69) rfl (flt hc69_16).2.1 (by decide) (by decide) k) ?_
                show Good p e below _ (T12.setTop (mkF m 87 #[.val (.long q0), .second, .val (.int p1), .val (.int tt), .val (.int (tt % (8 : Int32))), .val (.int (tt / (8 : Int32))), .unset, .unset] []))
                refine Good.back (fun _ k => XS.iconst X12.here hx rfl (hb hby at_87) k) ?_
                show Good p e below _ (T12.setTop (mkF m 88 #[.val (.long q0), .second, .val (.int p1), .val (.int tt), .val (.int (tt % (8 : Int32))), .val (.int (tt / (8 : Int32))), .unset, .unset] [(.int (0 : Int32))]))
                refine Good.back (fun _ k => XS.istore X12.here hx rfl (hb hby at_88) rfl (l' := #[.val (.long q0), .second, .val (.int p1), .val (.int tt), .val (.int (tt % (8 : Int32))), .val (.int (tt / (8 : Int32))), .val (.int (0 : Int32)), .unset]) rfl k) ?_
                show Good p e below _ (T12.setTop (mkF m 90 #[.val (.long q0), .second, .val (.int p1), .val (.int tt), .val (.int (tt % (8 : Int32))), .val (.int (tt / (8 : Int32))), .val (.int (0 : Int32)), .unset] []))
                refine Good.back (fun _ k => XS.lloadN X12.here hx rfl (hb hby at_90) rfl k) ?_
                show Good p e below _ (T12.setTop (mkF m 91 #[.val (.long q0), .second, .val (.int p1), .val (.int tt), .val (.int (tt % (8 : Int32))), .val (.int (tt / (8 : Int32))), .val (.int (0 : Int32)), .unset] [(.long q0)]))
                obtain ⟨_, _, ⟨T24, L24, k24, n24⟩, -, X24, ⟨Lc24, hQ24, l24, y24, z24⟩, st24⟩ := Jvm.LawKit.callS X12 hx (y := (⟨"com/example/trinode/trinode/troll/Board", "neighbours", "(J)J"⟩ : MethodName)) hown (mvT hZ (hw _ (List.mem_of_getElem? (i := 4) rfl))) (mvT hZ (hw _ (List.mem_of_getElem? (i := 5) rfl))) (mvT hZ (hw _ (List.mem_of_getElem? (i := 6) rfl))) (mvT hZ (hw _ (List.mem_of_getElem? (i := 7) rfl))) (by decide) (backOf (W := 0) (rm2 l Z a0 hw [] q0  h0 n0 Z0 ) hZ (hw _ (List.mem_of_getElem? (i := 7) rfl)) (hw _ (List.mem_of_getElem? (i := 6) rfl)) (by decide) (by decide)) (g := (mkF m 91 #[.val (.long q0), .second, .val (.int p1), .val (.int tt), .val (.int (tt % (8 : Int32))), .val (.int (tt / (8 : Int32))), .val (.int (0 : Int32)), .unset] [(.long q0)])) rfl (by rw [hml]; rfl) (argsL := [(.long q0)]) (rest := []) (lenOf own_pd37 rfl) rfl (by show 2 * 0 + _ ≤ _; exact Nat.le_of_eq rfl) (hb hby at_91) (fun _ _ => ⟨rfl, eh12, (by decide : 0 + 0 ≤ _), (by decide : 0 + 0 ≤ _)⟩)
                dsimp only [Pt.U, Pt.locs, Pt.cells, Pt.slots] at X24 l24 y24 z24 st24 hQ24
                subst l24 y24 z24
                obtain ⟨rfl, N24q, eh24⟩ := hQ24
                have N24 := Fr.app N12 N24q
                refine Good.back st24 ?_
                show Good p e below _ (T24.setTop (mkF m 94 #[.val (.long q0), .second, .val (.int p1), .val (.int tt), .val (.int (tt % (8 : Int32))), .val (.int (tt / (8 : Int32))), .val (.int (0 : Int32)), .unset] [(.long (own_nb q0))]))
                refine Good.back (fun _ k => XS.iloadN X24.here hx rfl (hb hby at_94) rfl k) ?_
                show Good p e below _ (T24.setTop (mkF m 95 #[.val (.long q0), .second, .val (.int p1), .val (.int tt), .val (.int (tt % (8 : Int32))), .val (.int (tt / (8 : Int32))), .val (.int (0 : Int32)), .unset] [(.int tt), (.long (own_nb q0))]))
                refine Good.back (fun _ k => XS.lushr X24.here hx rfl (hb hby at_95) rfl k) ?_
                show Good p e below _ (T24.setTop (mkF m 96 #[.val (.long q0), .second, .val (.int p1), .val (.int tt), .val (.int (tt % (8 : Int32))), .val (.int (tt / (8 : Int32))), .val (.int (0 : Int32)), .unset] [(.long (((own_nb q0).toUInt64 >>> (tt &&& 0x3f).toInt64.toUInt64).toInt64))]))
                refine Good.back (fun _ k => XS.lconst X24.here hx rfl (hb hby at_96) k) ?_
                show Good p e below _ (T24.setTop (mkF m 97 #[.val (.long q0), .second, .val (.int p1), .val (.int tt), .val (.int (tt % (8 : Int32))), .val (.int (tt / (8 : Int32))), .val (.int (0 : Int32)), .unset] [(.long (1 : Int64)), (.long (((own_nb q0).toUInt64 >>> (tt &&& 0x3f).toInt64.toUInt64).toInt64))]))
                refine Good.back (fun _ k => XS.land X24.here hx rfl (hb hby at_97) rfl k) ?_
                show Good p e below _ (T24.setTop (mkF m 98 #[.val (.long q0), .second, .val (.int p1), .val (.int tt), .val (.int (tt % (8 : Int32))), .val (.int (tt / (8 : Int32))), .val (.int (0 : Int32)), .unset] [(.long ((((own_nb q0).toUInt64 >>> (tt &&& 0x3f).toInt64.toUInt64).toInt64) &&& (1 : Int64)))]))
                refine Good.back (fun _ k => XS.lconst X24.here hx rfl (hb hby at_98) k) ?_
                show Good p e below _ (T24.setTop (mkF m 99 #[.val (.long q0), .second, .val (.int p1), .val (.int tt), .val (.int (tt % (8 : Int32))), .val (.int (tt / (8 : Int32))), .val (.int (0 : Int32)), .unset] [(.long (0 : Int64)), (.long ((((own_nb q0).toUInt64 >>> (tt &&& 0x3f).toInt64.toUInt64).toInt64) &&& (1 : Int64)))]))
                refine Good.back (fun _ k => XS.lcmp X24.here hx rfl (hb hby at_99) rfl k) ?_
                show Good p e below _ (T24.setTop (mkF m 100 #[.val (.long q0), .second, .val (.int p1), .val (.int tt), .val (.int (tt % (8 : Int32))), .val (.int (tt / (8 : Int32))), .val (.int (0 : Int32)), .unset] [(.int (lcmpW ((((own_nb q0).toUInt64 >>> (tt &&& 0x3f).toInt64.toUInt64).toInt64) &&& (1 : Int64)) (0 : Int64)))]))
                have hno25 : ¬ own_has (own_nb q0) tt := fun y => by
                  rcases (own_law q0 tt t0 t1).mp y with x | x | x | x
                  · exact hb29_3 x.2
                  · exact hb46_8 x.2
                  · exact hb62_13 x.2
                  · exact hc69_16 x.1
                refine Good.back (fun _ k => XS.ifYes X24.here hx rfl (pc0 := 100) (pc' := 107) rfl (hb hby at_100) rfl ((if0 _ _).trans (teq ((lw_eq _ _).mpr (Classical.byContradiction fun y => hno25 y) : (lcmpW ((((own_nb q0).toUInt64 >>> (tt &&& 0x3f).toInt64.toUInt64).toInt64) &&& (1 : Int64)) (0 : Int64)) = (0 : Int32))).1) (by decide) (by decide) k) ?_
                show Good p e below _ (T24.setTop (mkF m 107 #[.val (.long q0), .second, .val (.int p1), .val (.int tt), .val (.int (tt % (8 : Int32))), .val (.int (tt / (8 : Int32))), .val (.int (0 : Int32)), .unset] []))
                refine Good.back (fun _ k => XS.iconst X24.here hx rfl (hb hby at_107) k) ?_
                show Good p e below _ (T24.setTop (mkF m 108 #[.val (.long q0), .second, .val (.int p1), .val (.int tt), .val (.int (tt % (8 : Int32))), .val (.int (tt / (8 : Int32))), .val (.int (0 : Int32)), .unset] [(.int (0 : Int32))]))
                refine Good.back (fun _ k => XS.istore X24.here hx rfl (hb hby at_108) rfl (l' := #[.val (.long q0), .second, .val (.int p1), .val (.int tt), .val (.int (tt % (8 : Int32))), .val (.int (tt / (8 : Int32))), .val (.int (0 : Int32)), .val (.int (0 : Int32))]) rfl k) ?_
                show Good p e below _ (T24.setTop (mkF m 110 #[.val (.long q0), .second, .val (.int p1), .val (.int tt), .val (.int (tt % (8 : Int32))), .val (.int (tt / (8 : Int32))), .val (.int (0 : Int32)), .val (.int (0 : Int32))] []))
                refine Good.back (fun _ k => XS.iload X24.here hx rfl (hb hby at_110) rfl k) ?_
                show Good p e below _ (T24.setTop (mkF m 112 #[.val (.long q0), .second, .val (.int p1), .val (.int tt), .val (.int (tt % (8 : Int32))), .val (.int (tt / (8 : Int32))), .val (.int (0 : Int32)), .val (.int (0 : Int32))] [(.int (0 : Int32))]))
                refine Good.back (fun _ k => XS.iload X24.here hx rfl (hb hby at_112) rfl k) ?_
                show Good p e below _ (T24.setTop (mkF m 114 #[.val (.long q0), .second, .val (.int p1), .val (.int tt), .val (.int (tt % (8 : Int32))), .val (.int (tt / (8 : Int32))), .val (.int (0 : Int32)), .val (.int (0 : Int32))] [(.int (0 : Int32)), (.int (0 : Int32))]))
                refine Good.back (fun _ k => XS.icmpNo X24.here hx rfl (hb hby at_114) rfl (teq (by decide : ((0 : Int32) = (0 : Int32)))).2 k) ?_
                show Good p e below _ (T24.setTop (mkF m 117 #[.val (.long q0), .second, .val (.int p1), .val (.int tt), .val (.int (tt % (8 : Int32))), .val (.int (tt / (8 : Int32))), .val (.int (0 : Int32)), .val (.int (0 : Int32))] []))
                refine Good.back (fun _ k => XS.iconst X24.here hx rfl (hb hby at_117) k) ?_
                show Good p e below _ (T24.setTop (mkF m 118 #[.val (.long q0), .second, .val (.int p1), .val (.int tt), .val (.int (tt % (8 : Int32))), .val (.int (tt / (8 : Int32))), .val (.int (0 : Int32)), .val (.int (0 : Int32))] [(.int (1 : Int32))]))
                refine Good.back (fun _ k => XS.goto X24.here hx rfl (pc0 := 118) (pc' := 122) rfl (hb hby at_118) (by decide) (by decide) k) ?_
                show Good p e below _ (T24.setTop (mkF m 122 #[.val (.long q0), .second, .val (.int p1), .val (.int tt), .val (.int (tt % (8 : Int32))), .val (.int (tt / (8 : Int32))), .val (.int (0 : Int32)), .val (.int (0 : Int32))] [(.int (1 : Int32))]))
                obtain ⟨fs26, hr26, hrun26, hended26, hW26, hsame26⟩ := X24.leave (v := some (.int (1 : Int32))) (fun h => by rw [Bd.returns] at h; cases h)
                refine Good.done (retN X24 hx (t := .boolean) Bd.returns (by simp) (hb hby at_122) hr26) hrun26 hended26 ⟨_, _, rfl, ?_, ⟨_, rfl⟩, hW26, hsame26.mono (by decide) (by decide)⟩
                show Q0 Z q0 p1 h0 n0 _ T24.heap _
                rw [eh24]
                exact ⟨rfl, N24⟩
          · refine Good.back (fun _ k => XS.ifYes X7.here hx rfl (pc0 := 51) (pc' := 65) rfl (hb hby at_51) rfl ((if0 _ _).trans (flt hc51_11).2.2.2) (by decide) (by decide) k) ?_
            show Good p e below _ (T7.setTop (mkF m 65 #[.val (.long q0), .second, .val (.int p1), .val (.int tt), .val (.int (tt % (8 : Int32))), .val (.int (tt / (8 : Int32))), .unset, .unset] []))
            refine Good.back (fun _ k => XS.iload X7.here hx rfl (hb hby at_65) rfl k) ?_
            show Good p e below _ (T7.setTop (mkF m 67 #[.val (.long q0), .second, .val (.int p1), .val (.int tt), .val (.int (tt % (8 : Int32))), .val (.int (tt / (8 : Int32))), .unset, .unset] [(.int (tt / (8 : Int32)))]))
            refine Good.back (fun _ k => XS.bipush X7.here hx rfl (hb hby at_67) k) ?_
            show Good p e below _ (T7.setTop (mkF m 69 #[.val (.long q0), .second, .val (.int p1), .val (.int tt), .val (.int (tt % (8 : Int32))), .val (.int (tt / (8 : Int32))), .unset, .unset] [(.int (7 : Int32)), (.int (tt / (8 : Int32)))]))
            by_cases hc69_27 : (tt / (8 : Int32)) < (7 : Int32)
            · refine Good.back (fun _ k => XS.icmpNo X7.here hx rfl (hb hby at_69) rfl (tlt hc69_27).2.1 k) ?_
              show Good p e below _ (T7.setTop (mkF m 72 #[.val (.long q0), .second, .val (.int p1), .val (.int tt), .val (.int (tt % (8 : Int32))), .val (.int (tt / (8 : Int32))), .unset, .unset] []))
              refine Good.back (fun _ k => XS.lloadN X7.here hx rfl (hb hby at_72) rfl k) ?_
              show Good p e below _ (T7.setTop (mkF m 73 #[.val (.long q0), .second, .val (.int p1), .val (.int tt), .val (.int (tt % (8 : Int32))), .val (.int (tt / (8 : Int32))), .unset, .unset] [(.long q0)]))
              refine Good.back (fun _ k => XS.iloadN X7.here hx rfl (hb hby at_73) rfl k) ?_
              show Good p e below _ (T7.setTop (mkF m 74 #[.val (.long q0), .second, .val (.int p1), .val (.int tt), .val (.int (tt % (8 : Int32))), .val (.int (tt / (8 : Int32))), .unset, .unset] [(.int tt), (.long q0)]))
              refine Good.back (fun _ k => XS.bipush X7.here hx rfl (hb hby at_74) k) ?_
              show Good p e below _ (T7.setTop (mkF m 76 #[.val (.long q0), .second, .val (.int p1), .val (.int tt), .val (.int (tt % (8 : Int32))), .val (.int (tt / (8 : Int32))), .unset, .unset] [(.int (8 : Int32)), (.int tt), (.long q0)]))
              refine Good.back (fun _ k => XS.iadd X7.here hx rfl (hb hby at_76) rfl k) ?_
              show Good p e below _ (T7.setTop (mkF m 77 #[.val (.long q0), .second, .val (.int p1), .val (.int tt), .val (.int (tt % (8 : Int32))), .val (.int (tt / (8 : Int32))), .unset, .unset] [(.int (tt + (8 : Int32))), (.long q0)]))
              obtain ⟨_, _, ⟨T28, L28, k28, n28⟩, -, X28, ⟨Lc28, hQ28, l28, y28, z28⟩, st28⟩ := Jvm.LawKit.callS X7 hx (y := (⟨"com/example/trinode/trinode/troll/BoardNeighboursPinLaw", "has", "(JI)Z"⟩ : MethodName)) hown (mvT hZ (hw _ (List.mem_of_getElem? (i := 0) rfl))) (mvT hZ (hw _ (List.mem_of_getElem? (i := 1) rfl))) (mvT hZ (hw _ (List.mem_of_getElem? (i := 2) rfl))) (mvT hZ (hw _ (List.mem_of_getElem? (i := 3) rfl))) (by decide) (backOf (W := 0) (rm1 l Z a0 hw [] q0 (tt + (8 : Int32))  h0 n0 Z0 ) hZ (hw _ (List.mem_of_getElem? (i := 3) rfl)) (hw _ (List.mem_of_getElem? (i := 2) rfl)) (by decide) (by decide)) (g := (mkF m 77 #[.val (.long q0), .second, .val (.int p1), .val (.int tt), .val (.int (tt % (8 : Int32))), .val (.int (tt / (8 : Int32))), .unset, .unset] [(.int (tt + (8 : Int32))), (.long q0)])) rfl (by rw [hml]; rfl) (argsL := [(.long q0), (.int (tt + (8 : Int32)))]) (rest := []) (lenOf own_pd36 rfl) rfl (by show 2 * 0 + _ ≤ _; exact Nat.le_of_eq rfl) (hb hby at_77) (fun _ _ => ⟨rfl, eh7, (by decide : 0 + 0 ≤ _), (by decide : 0 + 0 ≤ _)⟩)
              dsimp only [Pt.U, Pt.locs, Pt.cells, Pt.slots] at X28 l28 y28 z28 st28 hQ28
              subst l28 y28 z28
              obtain ⟨rfl, N28q, eh28⟩ := hQ28
              have N28 := Fr.app N7 N28q
              refine Good.back st28 ?_
              show Good p e below _ (T28.setTop (mkF m 80 #[.val (.long q0), .second, .val (.int p1), .val (.int tt), .val (.int (tt % (8 : Int32))), .val (.int (tt / (8 : Int32))), .unset, .unset] [(.int (if own_has q0 (tt + (8 : Int32)) then (1 : Int32) else (0 : Int32)))]))
              by_cases hb80_29 : own_has q0 (tt + (8 : Int32))
              · rw [if_pos hb80_29]
                show Good p e below _ (T28.setTop (mkF m 80 #[.val (.long q0), .second, .val (.int p1), .val (.int tt), .val (.int (tt % (8 : Int32))), .val (.int (tt / (8 : Int32))), .unset, .unset] [(.int (1 : Int32))]))
                refine Good.back (fun _ k => XS.ifNo X28.here hx rfl (hb hby at_80) rfl ((if0 _ _).trans (feq (by decide : ¬ ((1 : Int32) = (0 : Int32)))).1) k) ?_
                show Good p e below _ (T28.setTop (mkF m 83 #[.val (.long q0), .second, .val (.int p1), .val (.int tt), .val (.int (tt % (8 : Int32))), .val (.int (tt / (8 : Int32))), .unset, .unset] []))
                refine Good.back (fun _ k => XS.iconst X28.here hx rfl (hb hby at_83) k) ?_
                show Good p e below _ (T28.setTop (mkF m 84 #[.val (.long q0), .second, .val (.int p1), .val (.int tt), .val (.int (tt % (8 : Int32))), .val (.int (tt / (8 : Int32))), .unset, .unset] [(.int (1 : Int32))]))
                refine Good.back (fun _ k => XS.goto X28.here hx rfl (pc0 := 84) (pc' := 88) rfl (hb hby at_84) (by decide) (by decide) k) ?_
                show Good p e below _ (T28.setTop (mkF m 88 #[.val (.long q0), .second, .val (.int p1), .val (.int tt), .val (.int (tt % (8 : Int32))), .val (.int (tt / (8 : Int32))), .unset, .unset] [(.int (1 : Int32))]))
                refine Good.back (fun _ k => XS.istore X28.here hx rfl (hb hby at_88) rfl (l' := #[.val (.long q0), .second, .val (.int p1), .val (.int tt), .val (.int (tt % (8 : Int32))), .val (.int (tt / (8 : Int32))), .val (.int (1 : Int32)), .unset]) rfl k) ?_
                show Good p e below _ (T28.setTop (mkF m 90 #[.val (.long q0), .second, .val (.int p1), .val (.int tt), .val (.int (tt % (8 : Int32))), .val (.int (tt / (8 : Int32))), .val (.int (1 : Int32)), .unset] []))
                refine Good.back (fun _ k => XS.lloadN X28.here hx rfl (hb hby at_90) rfl k) ?_
                show Good p e below _ (T28.setTop (mkF m 91 #[.val (.long q0), .second, .val (.int p1), .val (.int tt), .val (.int (tt % (8 : Int32))), .val (.int (tt / (8 : Int32))), .val (.int (1 : Int32)), .unset] [(.long q0)]))
                obtain ⟨_, _, ⟨T30, L30, k30, n30⟩, -, X30, ⟨Lc30, hQ30, l30, y30, z30⟩, st30⟩ := Jvm.LawKit.callS X28 hx (y := (⟨"com/example/trinode/trinode/troll/Board", "neighbours", "(J)J"⟩ : MethodName)) hown (mvT hZ (hw _ (List.mem_of_getElem? (i := 4) rfl))) (mvT hZ (hw _ (List.mem_of_getElem? (i := 5) rfl))) (mvT hZ (hw _ (List.mem_of_getElem? (i := 6) rfl))) (mvT hZ (hw _ (List.mem_of_getElem? (i := 7) rfl))) (by decide) (backOf (W := 0) (rm2 l Z a0 hw [] q0  h0 n0 Z0 ) hZ (hw _ (List.mem_of_getElem? (i := 7) rfl)) (hw _ (List.mem_of_getElem? (i := 6) rfl)) (by decide) (by decide)) (g := (mkF m 91 #[.val (.long q0), .second, .val (.int p1), .val (.int tt), .val (.int (tt % (8 : Int32))), .val (.int (tt / (8 : Int32))), .val (.int (1 : Int32)), .unset] [(.long q0)])) rfl (by rw [hml]; rfl) (argsL := [(.long q0)]) (rest := []) (lenOf own_pd37 rfl) rfl (by show 2 * 0 + _ ≤ _; exact Nat.le_of_eq rfl) (hb hby at_91) (fun _ _ => ⟨rfl, eh28, (by decide : 0 + 0 ≤ _), (by decide : 0 + 0 ≤ _)⟩)
                dsimp only [Pt.U, Pt.locs, Pt.cells, Pt.slots] at X30 l30 y30 z30 st30 hQ30
                subst l30 y30 z30
                obtain ⟨rfl, N30q, eh30⟩ := hQ30
                have N30 := Fr.app N28 N30q
                refine Good.back st30 ?_
                show Good p e below _ (T30.setTop (mkF m 94 #[.val (.long q0), .second, .val (.int p1), .val (.int tt), .val (.int (tt % (8 : Int32))), .val (.int (tt / (8 : Int32))), .val (.int (1 : Int32)), .unset] [(.long (own_nb q0))]))
                refine Good.back (fun _ k => XS.iloadN X30.here hx rfl (hb hby at_94) rfl k) ?_
                show Good p e below _ (T30.setTop (mkF m 95 #[.val (.long q0), .second, .val (.int p1), .val (.int tt), .val (.int (tt % (8 : Int32))), .val (.int (tt / (8 : Int32))), .val (.int (1 : Int32)), .unset] [(.int tt), (.long (own_nb q0))]))
                refine Good.back (fun _ k => XS.lushr X30.here hx rfl (hb hby at_95) rfl k) ?_
                show Good p e below _ (T30.setTop (mkF m 96 #[.val (.long q0), .second, .val (.int p1), .val (.int tt), .val (.int (tt % (8 : Int32))), .val (.int (tt / (8 : Int32))), .val (.int (1 : Int32)), .unset] [(.long (((own_nb q0).toUInt64 >>> (tt &&& 0x3f).toInt64.toUInt64).toInt64))]))
                refine Good.back (fun _ k => XS.lconst X30.here hx rfl (hb hby at_96) k) ?_
                show Good p e below _ (T30.setTop (mkF m 97 #[.val (.long q0), .second, .val (.int p1), .val (.int tt), .val (.int (tt % (8 : Int32))), .val (.int (tt / (8 : Int32))), .val (.int (1 : Int32)), .unset] [(.long (1 : Int64)), (.long (((own_nb q0).toUInt64 >>> (tt &&& 0x3f).toInt64.toUInt64).toInt64))]))
                refine Good.back (fun _ k => XS.land X30.here hx rfl (hb hby at_97) rfl k) ?_
                show Good p e below _ (T30.setTop (mkF m 98 #[.val (.long q0), .second, .val (.int p1), .val (.int tt), .val (.int (tt % (8 : Int32))), .val (.int (tt / (8 : Int32))), .val (.int (1 : Int32)), .unset] [(.long ((((own_nb q0).toUInt64 >>> (tt &&& 0x3f).toInt64.toUInt64).toInt64) &&& (1 : Int64)))]))
                refine Good.back (fun _ k => XS.lconst X30.here hx rfl (hb hby at_98) k) ?_
                show Good p e below _ (T30.setTop (mkF m 99 #[.val (.long q0), .second, .val (.int p1), .val (.int tt), .val (.int (tt % (8 : Int32))), .val (.int (tt / (8 : Int32))), .val (.int (1 : Int32)), .unset] [(.long (0 : Int64)), (.long ((((own_nb q0).toUInt64 >>> (tt &&& 0x3f).toInt64.toUInt64).toInt64) &&& (1 : Int64)))]))
                refine Good.back (fun _ k => XS.lcmp X30.here hx rfl (hb hby at_99) rfl k) ?_
                show Good p e below _ (T30.setTop (mkF m 100 #[.val (.long q0), .second, .val (.int p1), .val (.int tt), .val (.int (tt % (8 : Int32))), .val (.int (tt / (8 : Int32))), .val (.int (1 : Int32)), .unset] [(.int (lcmpW ((((own_nb q0).toUInt64 >>> (tt &&& 0x3f).toInt64.toUInt64).toInt64) &&& (1 : Int64)) (0 : Int64)))]))
                refine Good.back (fun _ k => XS.ifNo X30.here hx rfl (hb hby at_100) rfl ((if0 _ _).trans (feq (fun q => ((own_law q0 tt t0 t1).mpr (Or.inr (Or.inr (Or.inr (⟨hc69_27, hb80_29⟩))))) ((lw_eq _ _).mp q))).1) k) ?_
                show Good p e below _ (T30.setTop (mkF m 103 #[.val (.long q0), .second, .val (.int p1), .val (.int tt), .val (.int (tt % (8 : Int32))), .val (.int (tt / (8 : Int32))), .val (.int (1 : Int32)), .unset] []))
                refine Good.back (fun _ k => XS.iconst X30.here hx rfl (hb hby at_103) k) ?_
                show Good p e below _ (T30.setTop (mkF m 104 #[.val (.long q0), .second, .val (.int p1), .val (.int tt), .val (.int (tt % (8 : Int32))), .val (.int (tt / (8 : Int32))), .val (.int (1 : Int32)), .unset] [(.int (1 : Int32))]))
                refine Good.back (fun _ k => XS.goto X30.here hx rfl (pc0 := 104) (pc' := 108) rfl (hb hby at_104) (by decide) (by decide) k) ?_
                show Good p e below _ (T30.setTop (mkF m 108 #[.val (.long q0), .second, .val (.int p1), .val (.int tt), .val (.int (tt % (8 : Int32))), .val (.int (tt / (8 : Int32))), .val (.int (1 : Int32)), .unset] [(.int (1 : Int32))]))
                refine Good.back (fun _ k => XS.istore X30.here hx rfl (hb hby at_108) rfl (l' := #[.val (.long q0), .second, .val (.int p1), .val (.int tt), .val (.int (tt % (8 : Int32))), .val (.int (tt / (8 : Int32))), .val (.int (1 : Int32)), .val (.int (1 : Int32))]) rfl k) ?_
                show Good p e below _ (T30.setTop (mkF m 110 #[.val (.long q0), .second, .val (.int p1), .val (.int tt), .val (.int (tt % (8 : Int32))), .val (.int (tt / (8 : Int32))), .val (.int (1 : Int32)), .val (.int (1 : Int32))] []))
                refine Good.back (fun _ k => XS.iload X30.here hx rfl (hb hby at_110) rfl k) ?_
                show Good p e below _ (T30.setTop (mkF m 112 #[.val (.long q0), .second, .val (.int p1), .val (.int tt), .val (.int (tt % (8 : Int32))), .val (.int (tt / (8 : Int32))), .val (.int (1 : Int32)), .val (.int (1 : Int32))] [(.int (1 : Int32))]))
                refine Good.back (fun _ k => XS.iload X30.here hx rfl (hb hby at_112) rfl k) ?_
                show Good p e below _ (T30.setTop (mkF m 114 #[.val (.long q0), .second, .val (.int p1), .val (.int tt), .val (.int (tt % (8 : Int32))), .val (.int (tt / (8 : Int32))), .val (.int (1 : Int32)), .val (.int (1 : Int32))] [(.int (1 : Int32)), (.int (1 : Int32))]))
                refine Good.back (fun _ k => XS.icmpNo X30.here hx rfl (hb hby at_114) rfl (teq (by decide : ((1 : Int32) = (1 : Int32)))).2 k) ?_
                show Good p e below _ (T30.setTop (mkF m 117 #[.val (.long q0), .second, .val (.int p1), .val (.int tt), .val (.int (tt % (8 : Int32))), .val (.int (tt / (8 : Int32))), .val (.int (1 : Int32)), .val (.int (1 : Int32))] []))
                refine Good.back (fun _ k => XS.iconst X30.here hx rfl (hb hby at_117) k) ?_
                show Good p e below _ (T30.setTop (mkF m 118 #[.val (.long q0), .second, .val (.int p1), .val (.int tt), .val (.int (tt % (8 : Int32))), .val (.int (tt / (8 : Int32))), .val (.int (1 : Int32)), .val (.int (1 : Int32))] [(.int (1 : Int32))]))
                refine Good.back (fun _ k => XS.goto X30.here hx rfl (pc0 := 118) (pc' := 122) rfl (hb hby at_118) (by decide) (by decide) k) ?_
                show Good p e below _ (T30.setTop (mkF m 122 #[.val (.long q0), .second, .val (.int p1), .val (.int tt), .val (.int (tt % (8 : Int32))), .val (.int (tt / (8 : Int32))), .val (.int (1 : Int32)), .val (.int (1 : Int32))] [(.int (1 : Int32))]))
                obtain ⟨fs31, hr31, hrun31, hended31, hW31, hsame31⟩ := X30.leave (v := some (.int (1 : Int32))) (fun h => by rw [Bd.returns] at h; cases h)
                refine Good.done (retN X30 hx (t := .boolean) Bd.returns (by simp) (hb hby at_122) hr31) hrun31 hended31 ⟨_, _, rfl, ?_, ⟨_, rfl⟩, hW31, hsame31.mono (by decide) (by decide)⟩
                show Q0 Z q0 p1 h0 n0 _ T30.heap _
                rw [eh30]
                exact ⟨rfl, N30⟩
              · rw [if_neg hb80_29]
                show Good p e below _ (T28.setTop (mkF m 80 #[.val (.long q0), .second, .val (.int p1), .val (.int tt), .val (.int (tt % (8 : Int32))), .val (.int (tt / (8 : Int32))), .unset, .unset] [(.int (0 : Int32))]))
                refine Good.back (fun _ k => XS.ifYes X28.here hx rfl (pc0 := 80) (pc' := 87) rfl (hb hby at_80) rfl ((if0 _ _).trans (teq (by decide : ((0 : Int32) = (0 : Int32)))).1) (by decide) (by decide) k) ?_
                show Good p e below _ (T28.setTop (mkF m 87 #[.val (.long q0), .second, .val (.int p1), .val (.int tt), .val (.int (tt % (8 : Int32))), .val (.int (tt / (8 : Int32))), .unset, .unset] []))
                refine Good.back (fun _ k => XS.iconst X28.here hx rfl (hb hby at_87) k) ?_
                show Good p e below _ (T28.setTop (mkF m 88 #[.val (.long q0), .second, .val (.int p1), .val (.int tt), .val (.int (tt % (8 : Int32))), .val (.int (tt / (8 : Int32))), .unset, .unset] [(.int (0 : Int32))]))
                refine Good.back (fun _ k => XS.istore X28.here hx rfl (hb hby at_88) rfl (l' := #[.val (.long q0), .second, .val (.int p1), .val (.int tt), .val (.int (tt % (8 : Int32))), .val (.int (tt / (8 : Int32))), .val (.int (0 : Int32)), .unset]) rfl k) ?_
                show Good p e below _ (T28.setTop (mkF m 90 #[.val (.long q0), .second, .val (.int p1), .val (.int tt), .val (.int (tt % (8 : Int32))), .val (.int (tt / (8 : Int32))), .val (.int (0 : Int32)), .unset] []))
                refine Good.back (fun _ k => XS.lloadN X28.here hx rfl (hb hby at_90) rfl k) ?_
                show Good p e below _ (T28.setTop (mkF m 91 #[.val (.long q0), .second, .val (.int p1), .val (.int tt), .val (.int (tt % (8 : Int32))), .val (.int (tt / (8 : Int32))), .val (.int (0 : Int32)), .unset] [(.long q0)]))
                obtain ⟨_, _, ⟨T32, L32, k32, n32⟩, -, X32, ⟨Lc32, hQ32, l32, y32, z32⟩, st32⟩ := Jvm.LawKit.callS X28 hx (y := (⟨"com/example/trinode/trinode/troll/Board", "neighbours", "(J)J"⟩ : MethodName)) hown (mvT hZ (hw _ (List.mem_of_getElem? (i := 4) rfl))) (mvT hZ (hw _ (List.mem_of_getElem? (i := 5) rfl))) (mvT hZ (hw _ (List.mem_of_getElem? (i := 6) rfl))) (mvT hZ (hw _ (List.mem_of_getElem? (i := 7) rfl))) (by decide) (backOf (W := 0) (rm2 l Z a0 hw [] q0  h0 n0 Z0 ) hZ (hw _ (List.mem_of_getElem? (i := 7) rfl)) (hw _ (List.mem_of_getElem? (i := 6) rfl)) (by decide) (by decide)) (g := (mkF m 91 #[.val (.long q0), .second, .val (.int p1), .val (.int tt), .val (.int (tt % (8 : Int32))), .val (.int (tt / (8 : Int32))), .val (.int (0 : Int32)), .unset] [(.long q0)])) rfl (by rw [hml]; rfl) (argsL := [(.long q0)]) (rest := []) (lenOf own_pd37 rfl) rfl (by show 2 * 0 + _ ≤ _; exact Nat.le_of_eq rfl) (hb hby at_91) (fun _ _ => ⟨rfl, eh28, (by decide : 0 + 0 ≤ _), (by decide : 0 + 0 ≤ _)⟩)
                dsimp only [Pt.U, Pt.locs, Pt.cells, Pt.slots] at X32 l32 y32 z32 st32 hQ32
                subst l32 y32 z32
                obtain ⟨rfl, N32q, eh32⟩ := hQ32
                have N32 := Fr.app N28 N32q
                refine Good.back st32 ?_
                show Good p e below _ (T32.setTop (mkF m 94 #[.val (.long q0), .second, .val (.int p1), .val (.int tt), .val (.int (tt % (8 : Int32))), .val (.int (tt / (8 : Int32))), .val (.int (0 : Int32)), .unset] [(.long (own_nb q0))]))
                refine Good.back (fun _ k => XS.iloadN X32.here hx rfl (hb hby at_94) rfl k) ?_
                show Good p e below _ (T32.setTop (mkF m 95 #[.val (.long q0), .second, .val (.int p1), .val (.int tt), .val (.int (tt % (8 : Int32))), .val (.int (tt / (8 : Int32))), .val (.int (0 : Int32)), .unset] [(.int tt), (.long (own_nb q0))]))
                refine Good.back (fun _ k => XS.lushr X32.here hx rfl (hb hby at_95) rfl k) ?_
                show Good p e below _ (T32.setTop (mkF m 96 #[.val (.long q0), .second, .val (.int p1), .val (.int tt), .val (.int (tt % (8 : Int32))), .val (.int (tt / (8 : Int32))), .val (.int (0 : Int32)), .unset] [(.long (((own_nb q0).toUInt64 >>> (tt &&& 0x3f).toInt64.toUInt64).toInt64))]))
                refine Good.back (fun _ k => XS.lconst X32.here hx rfl (hb hby at_96) k) ?_
                show Good p e below _ (T32.setTop (mkF m 97 #[.val (.long q0), .second, .val (.int p1), .val (.int tt), .val (.int (tt % (8 : Int32))), .val (.int (tt / (8 : Int32))), .val (.int (0 : Int32)), .unset] [(.long (1 : Int64)), (.long (((own_nb q0).toUInt64 >>> (tt &&& 0x3f).toInt64.toUInt64).toInt64))]))
                refine Good.back (fun _ k => XS.land X32.here hx rfl (hb hby at_97) rfl k) ?_
                show Good p e below _ (T32.setTop (mkF m 98 #[.val (.long q0), .second, .val (.int p1), .val (.int tt), .val (.int (tt % (8 : Int32))), .val (.int (tt / (8 : Int32))), .val (.int (0 : Int32)), .unset] [(.long ((((own_nb q0).toUInt64 >>> (tt &&& 0x3f).toInt64.toUInt64).toInt64) &&& (1 : Int64)))]))
                refine Good.back (fun _ k => XS.lconst X32.here hx rfl (hb hby at_98) k) ?_
                show Good p e below _ (T32.setTop (mkF m 99 #[.val (.long q0), .second, .val (.int p1), .val (.int tt), .val (.int (tt % (8 : Int32))), .val (.int (tt / (8 : Int32))), .val (.int (0 : Int32)), .unset] [(.long (0 : Int64)), (.long ((((own_nb q0).toUInt64 >>> (tt &&& 0x3f).toInt64.toUInt64).toInt64) &&& (1 : Int64)))]))
                refine Good.back (fun _ k => XS.lcmp X32.here hx rfl (hb hby at_99) rfl k) ?_
                show Good p e below _ (T32.setTop (mkF m 100 #[.val (.long q0), .second, .val (.int p1), .val (.int tt), .val (.int (tt % (8 : Int32))), .val (.int (tt / (8 : Int32))), .val (.int (0 : Int32)), .unset] [(.int (lcmpW ((((own_nb q0).toUInt64 >>> (tt &&& 0x3f).toInt64.toUInt64).toInt64) &&& (1 : Int64)) (0 : Int64)))]))
                have hno33 : ¬ own_has (own_nb q0) tt := fun y => by
                  rcases (own_law q0 tt t0 t1).mp y with x | x | x | x
                  · exact hb29_3 x.2
                  · exact hb46_8 x.2
                  · exact hc51_11 x.1
                  · exact hb80_29 x.2
                refine Good.back (fun _ k => XS.ifYes X32.here hx rfl (pc0 := 100) (pc' := 107) rfl (hb hby at_100) rfl ((if0 _ _).trans (teq ((lw_eq _ _).mpr (Classical.byContradiction fun y => hno33 y) : (lcmpW ((((own_nb q0).toUInt64 >>> (tt &&& 0x3f).toInt64.toUInt64).toInt64) &&& (1 : Int64)) (0 : Int64)) = (0 : Int32))).1) (by decide) (by decide) k) ?_
                show Good p e below _ (T32.setTop (mkF m 107 #[.val (.long q0), .second, .val (.int p1), .val (.int tt), .val (.int (tt % (8 : Int32))), .val (.int (tt / (8 : Int32))), .val (.int (0 : Int32)), .unset] []))
                refine Good.back (fun _ k => XS.iconst X32.here hx rfl (hb hby at_107) k) ?_
                show Good p e below _ (T32.setTop (mkF m 108 #[.val (.long q0), .second, .val (.int p1), .val (.int tt), .val (.int (tt % (8 : Int32))), .val (.int (tt / (8 : Int32))), .val (.int (0 : Int32)), .unset] [(.int (0 : Int32))]))
                refine Good.back (fun _ k => XS.istore X32.here hx rfl (hb hby at_108) rfl (l' := #[.val (.long q0), .second, .val (.int p1), .val (.int tt), .val (.int (tt % (8 : Int32))), .val (.int (tt / (8 : Int32))), .val (.int (0 : Int32)), .val (.int (0 : Int32))]) rfl k) ?_
                show Good p e below _ (T32.setTop (mkF m 110 #[.val (.long q0), .second, .val (.int p1), .val (.int tt), .val (.int (tt % (8 : Int32))), .val (.int (tt / (8 : Int32))), .val (.int (0 : Int32)), .val (.int (0 : Int32))] []))
                refine Good.back (fun _ k => XS.iload X32.here hx rfl (hb hby at_110) rfl k) ?_
                show Good p e below _ (T32.setTop (mkF m 112 #[.val (.long q0), .second, .val (.int p1), .val (.int tt), .val (.int (tt % (8 : Int32))), .val (.int (tt / (8 : Int32))), .val (.int (0 : Int32)), .val (.int (0 : Int32))] [(.int (0 : Int32))]))
                refine Good.back (fun _ k => XS.iload X32.here hx rfl (hb hby at_112) rfl k) ?_
                show Good p e below _ (T32.setTop (mkF m 114 #[.val (.long q0), .second, .val (.int p1), .val (.int tt), .val (.int (tt % (8 : Int32))), .val (.int (tt / (8 : Int32))), .val (.int (0 : Int32)), .val (.int (0 : Int32))] [(.int (0 : Int32)), (.int (0 : Int32))]))
                refine Good.back (fun _ k => XS.icmpNo X32.here hx rfl (hb hby at_114) rfl (teq (by decide : ((0 : Int32) = (0 : Int32)))).2 k) ?_
                show Good p e below _ (T32.setTop (mkF m 117 #[.val (.long q0), .second, .val (.int p1), .val (.int tt), .val (.int (tt % (8 : Int32))), .val (.int (tt / (8 : Int32))), .val (.int (0 : Int32)), .val (.int (0 : Int32))] []))
                refine Good.back (fun _ k => XS.iconst X32.here hx rfl (hb hby at_117) k) ?_
                show Good p e below _ (T32.setTop (mkF m 118 #[.val (.long q0), .second, .val (.int p1), .val (.int tt), .val (.int (tt % (8 : Int32))), .val (.int (tt / (8 : Int32))), .val (.int (0 : Int32)), .val (.int (0 : Int32))] [(.int (1 : Int32))]))
                refine Good.back (fun _ k => XS.goto X32.here hx rfl (pc0 := 118) (pc' := 122) rfl (hb hby at_118) (by decide) (by decide) k) ?_
                show Good p e below _ (T32.setTop (mkF m 122 #[.val (.long q0), .second, .val (.int p1), .val (.int tt), .val (.int (tt % (8 : Int32))), .val (.int (tt / (8 : Int32))), .val (.int (0 : Int32)), .val (.int (0 : Int32))] [(.int (1 : Int32))]))
                obtain ⟨fs34, hr34, hrun34, hended34, hW34, hsame34⟩ := X32.leave (v := some (.int (1 : Int32))) (fun h => by rw [Bd.returns] at h; cases h)
                refine Good.done (retN X32 hx (t := .boolean) Bd.returns (by simp) (hb hby at_122) hr34) hrun34 hended34 ⟨_, _, rfl, ?_, ⟨_, rfl⟩, hW34, hsame34.mono (by decide) (by decide)⟩
                show Q0 Z q0 p1 h0 n0 _ T32.heap _
                rw [eh32]
                exact ⟨rfl, N32⟩
            · refine Good.back (fun _ k => XS.icmpYes X7.here hx rfl (pc0 := 69) (pc' := 87) rfl (hb hby at_69) rfl (flt hc69_27).2.1 (by decide) (by decide) k) ?_
              show Good p e below _ (T7.setTop (mkF m 87 #[.val (.long q0), .second, .val (.int p1), .val (.int tt), .val (.int (tt % (8 : Int32))), .val (.int (tt / (8 : Int32))), .unset, .unset] []))
              refine Good.back (fun _ k => XS.iconst X7.here hx rfl (hb hby at_87) k) ?_
              show Good p e below _ (T7.setTop (mkF m 88 #[.val (.long q0), .second, .val (.int p1), .val (.int tt), .val (.int (tt % (8 : Int32))), .val (.int (tt / (8 : Int32))), .unset, .unset] [(.int (0 : Int32))]))
              refine Good.back (fun _ k => XS.istore X7.here hx rfl (hb hby at_88) rfl (l' := #[.val (.long q0), .second, .val (.int p1), .val (.int tt), .val (.int (tt % (8 : Int32))), .val (.int (tt / (8 : Int32))), .val (.int (0 : Int32)), .unset]) rfl k) ?_
              show Good p e below _ (T7.setTop (mkF m 90 #[.val (.long q0), .second, .val (.int p1), .val (.int tt), .val (.int (tt % (8 : Int32))), .val (.int (tt / (8 : Int32))), .val (.int (0 : Int32)), .unset] []))
              refine Good.back (fun _ k => XS.lloadN X7.here hx rfl (hb hby at_90) rfl k) ?_
              show Good p e below _ (T7.setTop (mkF m 91 #[.val (.long q0), .second, .val (.int p1), .val (.int tt), .val (.int (tt % (8 : Int32))), .val (.int (tt / (8 : Int32))), .val (.int (0 : Int32)), .unset] [(.long q0)]))
              obtain ⟨_, _, ⟨T35, L35, k35, n35⟩, -, X35, ⟨Lc35, hQ35, l35, y35, z35⟩, st35⟩ := Jvm.LawKit.callS X7 hx (y := (⟨"com/example/trinode/trinode/troll/Board", "neighbours", "(J)J"⟩ : MethodName)) hown (mvT hZ (hw _ (List.mem_of_getElem? (i := 4) rfl))) (mvT hZ (hw _ (List.mem_of_getElem? (i := 5) rfl))) (mvT hZ (hw _ (List.mem_of_getElem? (i := 6) rfl))) (mvT hZ (hw _ (List.mem_of_getElem? (i := 7) rfl))) (by decide) (backOf (W := 0) (rm2 l Z a0 hw [] q0  h0 n0 Z0 ) hZ (hw _ (List.mem_of_getElem? (i := 7) rfl)) (hw _ (List.mem_of_getElem? (i := 6) rfl)) (by decide) (by decide)) (g := (mkF m 91 #[.val (.long q0), .second, .val (.int p1), .val (.int tt), .val (.int (tt % (8 : Int32))), .val (.int (tt / (8 : Int32))), .val (.int (0 : Int32)), .unset] [(.long q0)])) rfl (by rw [hml]; rfl) (argsL := [(.long q0)]) (rest := []) (lenOf own_pd37 rfl) rfl (by show 2 * 0 + _ ≤ _; exact Nat.le_of_eq rfl) (hb hby at_91) (fun _ _ => ⟨rfl, eh7, (by decide : 0 + 0 ≤ _), (by decide : 0 + 0 ≤ _)⟩)
              dsimp only [Pt.U, Pt.locs, Pt.cells, Pt.slots] at X35 l35 y35 z35 st35 hQ35
              subst l35 y35 z35
              obtain ⟨rfl, N35q, eh35⟩ := hQ35
              have N35 := Fr.app N7 N35q
              refine Good.back st35 ?_
              show Good p e below _ (T35.setTop (mkF m 94 #[.val (.long q0), .second, .val (.int p1), .val (.int tt), .val (.int (tt % (8 : Int32))), .val (.int (tt / (8 : Int32))), .val (.int (0 : Int32)), .unset] [(.long (own_nb q0))]))
              refine Good.back (fun _ k => XS.iloadN X35.here hx rfl (hb hby at_94) rfl k) ?_
              show Good p e below _ (T35.setTop (mkF m 95 #[.val (.long q0), .second, .val (.int p1), .val (.int tt), .val (.int (tt % (8 : Int32))), .val (.int (tt / (8 : Int32))), .val (.int (0 : Int32)), .unset] [(.int tt), (.long (own_nb q0))]))
              refine Good.back (fun _ k => XS.lushr X35.here hx rfl (hb hby at_95) rfl k) ?_
              show Good p e below _ (T35.setTop (mkF m 96 #[.val (.long q0), .second, .val (.int p1), .val (.int tt), .val (.int (tt % (8 : Int32))), .val (.int (tt / (8 : Int32))), .val (.int (0 : Int32)), .unset] [(.long (((own_nb q0).toUInt64 >>> (tt &&& 0x3f).toInt64.toUInt64).toInt64))]))
              refine Good.back (fun _ k => XS.lconst X35.here hx rfl (hb hby at_96) k) ?_
              show Good p e below _ (T35.setTop (mkF m 97 #[.val (.long q0), .second, .val (.int p1), .val (.int tt), .val (.int (tt % (8 : Int32))), .val (.int (tt / (8 : Int32))), .val (.int (0 : Int32)), .unset] [(.long (1 : Int64)), (.long (((own_nb q0).toUInt64 >>> (tt &&& 0x3f).toInt64.toUInt64).toInt64))]))
              refine Good.back (fun _ k => XS.land X35.here hx rfl (hb hby at_97) rfl k) ?_
              show Good p e below _ (T35.setTop (mkF m 98 #[.val (.long q0), .second, .val (.int p1), .val (.int tt), .val (.int (tt % (8 : Int32))), .val (.int (tt / (8 : Int32))), .val (.int (0 : Int32)), .unset] [(.long ((((own_nb q0).toUInt64 >>> (tt &&& 0x3f).toInt64.toUInt64).toInt64) &&& (1 : Int64)))]))
              refine Good.back (fun _ k => XS.lconst X35.here hx rfl (hb hby at_98) k) ?_
              show Good p e below _ (T35.setTop (mkF m 99 #[.val (.long q0), .second, .val (.int p1), .val (.int tt), .val (.int (tt % (8 : Int32))), .val (.int (tt / (8 : Int32))), .val (.int (0 : Int32)), .unset] [(.long (0 : Int64)), (.long ((((own_nb q0).toUInt64 >>> (tt &&& 0x3f).toInt64.toUInt64).toInt64) &&& (1 : Int64)))]))
              refine Good.back (fun _ k => XS.lcmp X35.here hx rfl (hb hby at_99) rfl k) ?_
              show Good p e below _ (T35.setTop (mkF m 100 #[.val (.long q0), .second, .val (.int p1), .val (.int tt), .val (.int (tt % (8 : Int32))), .val (.int (tt / (8 : Int32))), .val (.int (0 : Int32)), .unset] [(.int (lcmpW ((((own_nb q0).toUInt64 >>> (tt &&& 0x3f).toInt64.toUInt64).toInt64) &&& (1 : Int64)) (0 : Int64)))]))
              have hno36 : ¬ own_has (own_nb q0) tt := fun y => by
                rcases (own_law q0 tt t0 t1).mp y with x | x | x | x
                · exact hb29_3 x.2
                · exact hb46_8 x.2
                · exact hc51_11 x.1
                · exact hc69_27 x.1
              refine Good.back (fun _ k => XS.ifYes X35.here hx rfl (pc0 := 100) (pc' := 107) rfl (hb hby at_100) rfl ((if0 _ _).trans (teq ((lw_eq _ _).mpr (Classical.byContradiction fun y => hno36 y) : (lcmpW ((((own_nb q0).toUInt64 >>> (tt &&& 0x3f).toInt64.toUInt64).toInt64) &&& (1 : Int64)) (0 : Int64)) = (0 : Int32))).1) (by decide) (by decide) k) ?_
              show Good p e below _ (T35.setTop (mkF m 107 #[.val (.long q0), .second, .val (.int p1), .val (.int tt), .val (.int (tt % (8 : Int32))), .val (.int (tt / (8 : Int32))), .val (.int (0 : Int32)), .unset] []))
              refine Good.back (fun _ k => XS.iconst X35.here hx rfl (hb hby at_107) k) ?_
              show Good p e below _ (T35.setTop (mkF m 108 #[.val (.long q0), .second, .val (.int p1), .val (.int tt), .val (.int (tt % (8 : Int32))), .val (.int (tt / (8 : Int32))), .val (.int (0 : Int32)), .unset] [(.int (0 : Int32))]))
              refine Good.back (fun _ k => XS.istore X35.here hx rfl (hb hby at_108) rfl (l' := #[.val (.long q0), .second, .val (.int p1), .val (.int tt), .val (.int (tt % (8 : Int32))), .val (.int (tt / (8 : Int32))), .val (.int (0 : Int32)), .val (.int (0 : Int32))]) rfl k) ?_
              show Good p e below _ (T35.setTop (mkF m 110 #[.val (.long q0), .second, .val (.int p1), .val (.int tt), .val (.int (tt % (8 : Int32))), .val (.int (tt / (8 : Int32))), .val (.int (0 : Int32)), .val (.int (0 : Int32))] []))
              refine Good.back (fun _ k => XS.iload X35.here hx rfl (hb hby at_110) rfl k) ?_
              show Good p e below _ (T35.setTop (mkF m 112 #[.val (.long q0), .second, .val (.int p1), .val (.int tt), .val (.int (tt % (8 : Int32))), .val (.int (tt / (8 : Int32))), .val (.int (0 : Int32)), .val (.int (0 : Int32))] [(.int (0 : Int32))]))
              refine Good.back (fun _ k => XS.iload X35.here hx rfl (hb hby at_112) rfl k) ?_
              show Good p e below _ (T35.setTop (mkF m 114 #[.val (.long q0), .second, .val (.int p1), .val (.int tt), .val (.int (tt % (8 : Int32))), .val (.int (tt / (8 : Int32))), .val (.int (0 : Int32)), .val (.int (0 : Int32))] [(.int (0 : Int32)), (.int (0 : Int32))]))
              refine Good.back (fun _ k => XS.icmpNo X35.here hx rfl (hb hby at_114) rfl (teq (by decide : ((0 : Int32) = (0 : Int32)))).2 k) ?_
              show Good p e below _ (T35.setTop (mkF m 117 #[.val (.long q0), .second, .val (.int p1), .val (.int tt), .val (.int (tt % (8 : Int32))), .val (.int (tt / (8 : Int32))), .val (.int (0 : Int32)), .val (.int (0 : Int32))] []))
              refine Good.back (fun _ k => XS.iconst X35.here hx rfl (hb hby at_117) k) ?_
              show Good p e below _ (T35.setTop (mkF m 118 #[.val (.long q0), .second, .val (.int p1), .val (.int tt), .val (.int (tt % (8 : Int32))), .val (.int (tt / (8 : Int32))), .val (.int (0 : Int32)), .val (.int (0 : Int32))] [(.int (1 : Int32))]))
              refine Good.back (fun _ k => XS.goto X35.here hx rfl (pc0 := 118) (pc' := 122) rfl (hb hby at_118) (by decide) (by decide) k) ?_
              show Good p e below _ (T35.setTop (mkF m 122 #[.val (.long q0), .second, .val (.int p1), .val (.int tt), .val (.int (tt % (8 : Int32))), .val (.int (tt / (8 : Int32))), .val (.int (0 : Int32)), .val (.int (0 : Int32))] [(.int (1 : Int32))]))
              obtain ⟨fs37, hr37, hrun37, hended37, hW37, hsame37⟩ := X35.leave (v := some (.int (1 : Int32))) (fun h => by rw [Bd.returns] at h; cases h)
              refine Good.done (retN X35 hx (t := .boolean) Bd.returns (by simp) (hb hby at_122) hr37) hrun37 hended37 ⟨_, _, rfl, ?_, ⟨_, rfl⟩, hW37, hsame37.mono (by decide) (by decide)⟩
              show Q0 Z q0 p1 h0 n0 _ T35.heap _
              rw [eh35]
              exact ⟨rfl, N35⟩
      · refine Good.back (fun _ k => XS.icmpYes X2.here hx rfl (pc0 := 36) (pc' := 49) rfl (hb hby at_36) rfl (flt hc36_6).2.1 (by decide) (by decide) k) ?_
        show Good p e below _ (T2.setTop (mkF m 49 #[.val (.long q0), .second, .val (.int p1), .val (.int tt), .val (.int (tt % (8 : Int32))), .val (.int (tt / (8 : Int32))), .unset, .unset] []))
        refine Good.back (fun _ k => XS.iload X2.here hx rfl (hb hby at_49) rfl k) ?_
        show Good p e below _ (T2.setTop (mkF m 51 #[.val (.long q0), .second, .val (.int p1), .val (.int tt), .val (.int (tt % (8 : Int32))), .val (.int (tt / (8 : Int32))), .unset, .unset] [(.int (tt / (8 : Int32)))]))
        by_cases hc51_38 : (0 : Int32) < (tt / (8 : Int32))
        · refine Good.back (fun _ k => XS.ifNo X2.here hx rfl (hb hby at_51) rfl ((if0 _ _).trans (tlt hc51_38).2.2.2) k) ?_
          show Good p e below _ (T2.setTop (mkF m 54 #[.val (.long q0), .second, .val (.int p1), .val (.int tt), .val (.int (tt % (8 : Int32))), .val (.int (tt / (8 : Int32))), .unset, .unset] []))
          refine Good.back (fun _ k => XS.lloadN X2.here hx rfl (hb hby at_54) rfl k) ?_
          show Good p e below _ (T2.setTop (mkF m 55 #[.val (.long q0), .second, .val (.int p1), .val (.int tt), .val (.int (tt % (8 : Int32))), .val (.int (tt / (8 : Int32))), .unset, .unset] [(.long q0)]))
          refine Good.back (fun _ k => XS.iloadN X2.here hx rfl (hb hby at_55) rfl k) ?_
          show Good p e below _ (T2.setTop (mkF m 56 #[.val (.long q0), .second, .val (.int p1), .val (.int tt), .val (.int (tt % (8 : Int32))), .val (.int (tt / (8 : Int32))), .unset, .unset] [(.int tt), (.long q0)]))
          refine Good.back (fun _ k => XS.bipush X2.here hx rfl (hb hby at_56) k) ?_
          show Good p e below _ (T2.setTop (mkF m 58 #[.val (.long q0), .second, .val (.int p1), .val (.int tt), .val (.int (tt % (8 : Int32))), .val (.int (tt / (8 : Int32))), .unset, .unset] [(.int (8 : Int32)), (.int tt), (.long q0)]))
          refine Good.back (fun _ k => XS.isub X2.here hx rfl (hb hby at_58) rfl k) ?_
          show Good p e below _ (T2.setTop (mkF m 59 #[.val (.long q0), .second, .val (.int p1), .val (.int tt), .val (.int (tt % (8 : Int32))), .val (.int (tt / (8 : Int32))), .unset, .unset] [(.int (tt - (8 : Int32))), (.long q0)]))
          obtain ⟨_, _, ⟨T39, L39, k39, n39⟩, -, X39, ⟨Lc39, hQ39, l39, y39, z39⟩, st39⟩ := Jvm.LawKit.callS X2 hx (y := (⟨"com/example/trinode/trinode/troll/BoardNeighboursPinLaw", "has", "(JI)Z"⟩ : MethodName)) hown (mvT hZ (hw _ (List.mem_of_getElem? (i := 0) rfl))) (mvT hZ (hw _ (List.mem_of_getElem? (i := 1) rfl))) (mvT hZ (hw _ (List.mem_of_getElem? (i := 2) rfl))) (mvT hZ (hw _ (List.mem_of_getElem? (i := 3) rfl))) (by decide) (backOf (W := 0) (rm1 l Z a0 hw [] q0 (tt - (8 : Int32))  h0 n0 Z0 ) hZ (hw _ (List.mem_of_getElem? (i := 3) rfl)) (hw _ (List.mem_of_getElem? (i := 2) rfl)) (by decide) (by decide)) (g := (mkF m 59 #[.val (.long q0), .second, .val (.int p1), .val (.int tt), .val (.int (tt % (8 : Int32))), .val (.int (tt / (8 : Int32))), .unset, .unset] [(.int (tt - (8 : Int32))), (.long q0)])) rfl (by rw [hml]; rfl) (argsL := [(.long q0), (.int (tt - (8 : Int32)))]) (rest := []) (lenOf own_pd36 rfl) rfl (by show 2 * 0 + _ ≤ _; exact Nat.le_of_eq rfl) (hb hby at_59) (fun _ _ => ⟨rfl, eh2, (by decide : 0 + 0 ≤ _), (by decide : 0 + 0 ≤ _)⟩)
          dsimp only [Pt.U, Pt.locs, Pt.cells, Pt.slots] at X39 l39 y39 z39 st39 hQ39
          subst l39 y39 z39
          obtain ⟨rfl, N39q, eh39⟩ := hQ39
          have N39 := Fr.app N2 N39q
          refine Good.back st39 ?_
          show Good p e below _ (T39.setTop (mkF m 62 #[.val (.long q0), .second, .val (.int p1), .val (.int tt), .val (.int (tt % (8 : Int32))), .val (.int (tt / (8 : Int32))), .unset, .unset] [(.int (if own_has q0 (tt - (8 : Int32)) then (1 : Int32) else (0 : Int32)))]))
          by_cases hb62_40 : own_has q0 (tt - (8 : Int32))
          · rw [if_pos hb62_40]
            show Good p e below _ (T39.setTop (mkF m 62 #[.val (.long q0), .second, .val (.int p1), .val (.int tt), .val (.int (tt % (8 : Int32))), .val (.int (tt / (8 : Int32))), .unset, .unset] [(.int (1 : Int32))]))
            refine Good.back (fun _ k => XS.ifYes X39.here hx rfl (pc0 := 62) (pc' := 83) rfl (hb hby at_62) rfl ((if0 _ _).trans (feq (by decide : ¬ ((1 : Int32) = (0 : Int32)))).2) (by decide) (by decide) k) ?_
            show Good p e below _ (T39.setTop (mkF m 83 #[.val (.long q0), .second, .val (.int p1), .val (.int tt), .val (.int (tt % (8 : Int32))), .val (.int (tt / (8 : Int32))), .unset, .unset] []))
            refine Good.back (fun _ k => XS.iconst X39.here hx rfl (hb hby at_83) k) ?_
            show Good p e below _ (T39.setTop (mkF m 84 #[.val (.long q0), .second, .val (.int p1), .val (.int tt), .val (.int (tt % (8 : Int32))), .val (.int (tt / (8 : Int32))), .unset, .unset] [(.int (1 : Int32))]))
            refine Good.back (fun _ k => XS.goto X39.here hx rfl (pc0 := 84) (pc' := 88) rfl (hb hby at_84) (by decide) (by decide) k) ?_
            show Good p e below _ (T39.setTop (mkF m 88 #[.val (.long q0), .second, .val (.int p1), .val (.int tt), .val (.int (tt % (8 : Int32))), .val (.int (tt / (8 : Int32))), .unset, .unset] [(.int (1 : Int32))]))
            refine Good.back (fun _ k => XS.istore X39.here hx rfl (hb hby at_88) rfl (l' := #[.val (.long q0), .second, .val (.int p1), .val (.int tt), .val (.int (tt % (8 : Int32))), .val (.int (tt / (8 : Int32))), .val (.int (1 : Int32)), .unset]) rfl k) ?_
            show Good p e below _ (T39.setTop (mkF m 90 #[.val (.long q0), .second, .val (.int p1), .val (.int tt), .val (.int (tt % (8 : Int32))), .val (.int (tt / (8 : Int32))), .val (.int (1 : Int32)), .unset] []))
            refine Good.back (fun _ k => XS.lloadN X39.here hx rfl (hb hby at_90) rfl k) ?_
            show Good p e below _ (T39.setTop (mkF m 91 #[.val (.long q0), .second, .val (.int p1), .val (.int tt), .val (.int (tt % (8 : Int32))), .val (.int (tt / (8 : Int32))), .val (.int (1 : Int32)), .unset] [(.long q0)]))
            obtain ⟨_, _, ⟨T41, L41, k41, n41⟩, -, X41, ⟨Lc41, hQ41, l41, y41, z41⟩, st41⟩ := Jvm.LawKit.callS X39 hx (y := (⟨"com/example/trinode/trinode/troll/Board", "neighbours", "(J)J"⟩ : MethodName)) hown (mvT hZ (hw _ (List.mem_of_getElem? (i := 4) rfl))) (mvT hZ (hw _ (List.mem_of_getElem? (i := 5) rfl))) (mvT hZ (hw _ (List.mem_of_getElem? (i := 6) rfl))) (mvT hZ (hw _ (List.mem_of_getElem? (i := 7) rfl))) (by decide) (backOf (W := 0) (rm2 l Z a0 hw [] q0  h0 n0 Z0 ) hZ (hw _ (List.mem_of_getElem? (i := 7) rfl)) (hw _ (List.mem_of_getElem? (i := 6) rfl)) (by decide) (by decide)) (g := (mkF m 91 #[.val (.long q0), .second, .val (.int p1), .val (.int tt), .val (.int (tt % (8 : Int32))), .val (.int (tt / (8 : Int32))), .val (.int (1 : Int32)), .unset] [(.long q0)])) rfl (by rw [hml]; rfl) (argsL := [(.long q0)]) (rest := []) (lenOf own_pd37 rfl) rfl (by show 2 * 0 + _ ≤ _; exact Nat.le_of_eq rfl) (hb hby at_91) (fun _ _ => ⟨rfl, eh39, (by decide : 0 + 0 ≤ _), (by decide : 0 + 0 ≤ _)⟩)
            dsimp only [Pt.U, Pt.locs, Pt.cells, Pt.slots] at X41 l41 y41 z41 st41 hQ41
            subst l41 y41 z41
            obtain ⟨rfl, N41q, eh41⟩ := hQ41
            have N41 := Fr.app N39 N41q
            refine Good.back st41 ?_
            show Good p e below _ (T41.setTop (mkF m 94 #[.val (.long q0), .second, .val (.int p1), .val (.int tt), .val (.int (tt % (8 : Int32))), .val (.int (tt / (8 : Int32))), .val (.int (1 : Int32)), .unset] [(.long (own_nb q0))]))
            refine Good.back (fun _ k => XS.iloadN X41.here hx rfl (hb hby at_94) rfl k) ?_
            show Good p e below _ (T41.setTop (mkF m 95 #[.val (.long q0), .second, .val (.int p1), .val (.int tt), .val (.int (tt % (8 : Int32))), .val (.int (tt / (8 : Int32))), .val (.int (1 : Int32)), .unset] [(.int tt), (.long (own_nb q0))]))
            refine Good.back (fun _ k => XS.lushr X41.here hx rfl (hb hby at_95) rfl k) ?_
            show Good p e below _ (T41.setTop (mkF m 96 #[.val (.long q0), .second, .val (.int p1), .val (.int tt), .val (.int (tt % (8 : Int32))), .val (.int (tt / (8 : Int32))), .val (.int (1 : Int32)), .unset] [(.long (((own_nb q0).toUInt64 >>> (tt &&& 0x3f).toInt64.toUInt64).toInt64))]))
            refine Good.back (fun _ k => XS.lconst X41.here hx rfl (hb hby at_96) k) ?_
            show Good p e below _ (T41.setTop (mkF m 97 #[.val (.long q0), .second, .val (.int p1), .val (.int tt), .val (.int (tt % (8 : Int32))), .val (.int (tt / (8 : Int32))), .val (.int (1 : Int32)), .unset] [(.long (1 : Int64)), (.long (((own_nb q0).toUInt64 >>> (tt &&& 0x3f).toInt64.toUInt64).toInt64))]))
            refine Good.back (fun _ k => XS.land X41.here hx rfl (hb hby at_97) rfl k) ?_
            show Good p e below _ (T41.setTop (mkF m 98 #[.val (.long q0), .second, .val (.int p1), .val (.int tt), .val (.int (tt % (8 : Int32))), .val (.int (tt / (8 : Int32))), .val (.int (1 : Int32)), .unset] [(.long ((((own_nb q0).toUInt64 >>> (tt &&& 0x3f).toInt64.toUInt64).toInt64) &&& (1 : Int64)))]))
            refine Good.back (fun _ k => XS.lconst X41.here hx rfl (hb hby at_98) k) ?_
            show Good p e below _ (T41.setTop (mkF m 99 #[.val (.long q0), .second, .val (.int p1), .val (.int tt), .val (.int (tt % (8 : Int32))), .val (.int (tt / (8 : Int32))), .val (.int (1 : Int32)), .unset] [(.long (0 : Int64)), (.long ((((own_nb q0).toUInt64 >>> (tt &&& 0x3f).toInt64.toUInt64).toInt64) &&& (1 : Int64)))]))
            refine Good.back (fun _ k => XS.lcmp X41.here hx rfl (hb hby at_99) rfl k) ?_
            show Good p e below _ (T41.setTop (mkF m 100 #[.val (.long q0), .second, .val (.int p1), .val (.int tt), .val (.int (tt % (8 : Int32))), .val (.int (tt / (8 : Int32))), .val (.int (1 : Int32)), .unset] [(.int (lcmpW ((((own_nb q0).toUInt64 >>> (tt &&& 0x3f).toInt64.toUInt64).toInt64) &&& (1 : Int64)) (0 : Int64)))]))
            refine Good.back (fun _ k => XS.ifNo X41.here hx rfl (hb hby at_100) rfl ((if0 _ _).trans (feq (fun q => ((own_law q0 tt t0 t1).mpr (Or.inr (Or.inr (Or.inl ⟨hc51_38, hb62_40⟩)))) ((lw_eq _ _).mp q))).1) k) ?_
            show Good p e below _ (T41.setTop (mkF m 103 #[.val (.long q0), .second, .val (.int p1), .val (.int tt), .val (.int (tt % (8 : Int32))), .val (.int (tt / (8 : Int32))), .val (.int (1 : Int32)), .unset] []))
            refine Good.back (fun _ k => XS.iconst X41.here hx rfl (hb hby at_103) k) ?_
            show Good p e below _ (T41.setTop (mkF m 104 #[.val (.long q0), .second, .val (.int p1), .val (.int tt), .val (.int (tt % (8 : Int32))), .val (.int (tt / (8 : Int32))), .val (.int (1 : Int32)), .unset] [(.int (1 : Int32))]))
            refine Good.back (fun _ k => XS.goto X41.here hx rfl (pc0 := 104) (pc' := 108) rfl (hb hby at_104) (by decide) (by decide) k) ?_
            show Good p e below _ (T41.setTop (mkF m 108 #[.val (.long q0), .second, .val (.int p1), .val (.int tt), .val (.int (tt % (8 : Int32))), .val (.int (tt / (8 : Int32))), .val (.int (1 : Int32)), .unset] [(.int (1 : Int32))]))
            refine Good.back (fun _ k => XS.istore X41.here hx rfl (hb hby at_108) rfl (l' := #[.val (.long q0), .second, .val (.int p1), .val (.int tt), .val (.int (tt % (8 : Int32))), .val (.int (tt / (8 : Int32))), .val (.int (1 : Int32)), .val (.int (1 : Int32))]) rfl k) ?_
            show Good p e below _ (T41.setTop (mkF m 110 #[.val (.long q0), .second, .val (.int p1), .val (.int tt), .val (.int (tt % (8 : Int32))), .val (.int (tt / (8 : Int32))), .val (.int (1 : Int32)), .val (.int (1 : Int32))] []))
            refine Good.back (fun _ k => XS.iload X41.here hx rfl (hb hby at_110) rfl k) ?_
            show Good p e below _ (T41.setTop (mkF m 112 #[.val (.long q0), .second, .val (.int p1), .val (.int tt), .val (.int (tt % (8 : Int32))), .val (.int (tt / (8 : Int32))), .val (.int (1 : Int32)), .val (.int (1 : Int32))] [(.int (1 : Int32))]))
            refine Good.back (fun _ k => XS.iload X41.here hx rfl (hb hby at_112) rfl k) ?_
            show Good p e below _ (T41.setTop (mkF m 114 #[.val (.long q0), .second, .val (.int p1), .val (.int tt), .val (.int (tt % (8 : Int32))), .val (.int (tt / (8 : Int32))), .val (.int (1 : Int32)), .val (.int (1 : Int32))] [(.int (1 : Int32)), (.int (1 : Int32))]))
            refine Good.back (fun _ k => XS.icmpNo X41.here hx rfl (hb hby at_114) rfl (teq (by decide : ((1 : Int32) = (1 : Int32)))).2 k) ?_
            show Good p e below _ (T41.setTop (mkF m 117 #[.val (.long q0), .second, .val (.int p1), .val (.int tt), .val (.int (tt % (8 : Int32))), .val (.int (tt / (8 : Int32))), .val (.int (1 : Int32)), .val (.int (1 : Int32))] []))
            refine Good.back (fun _ k => XS.iconst X41.here hx rfl (hb hby at_117) k) ?_
            show Good p e below _ (T41.setTop (mkF m 118 #[.val (.long q0), .second, .val (.int p1), .val (.int tt), .val (.int (tt % (8 : Int32))), .val (.int (tt / (8 : Int32))), .val (.int (1 : Int32)), .val (.int (1 : Int32))] [(.int (1 : Int32))]))
            refine Good.back (fun _ k => XS.goto X41.here hx rfl (pc0 := 118) (pc' := 122) rfl (hb hby at_118) (by decide) (by decide) k) ?_
            show Good p e below _ (T41.setTop (mkF m 122 #[.val (.long q0), .second, .val (.int p1), .val (.int tt), .val (.int (tt % (8 : Int32))), .val (.int (tt / (8 : Int32))), .val (.int (1 : Int32)), .val (.int (1 : Int32))] [(.int (1 : Int32))]))
            obtain ⟨fs42, hr42, hrun42, hended42, hW42, hsame42⟩ := X41.leave (v := some (.int (1 : Int32))) (fun h => by rw [Bd.returns] at h; cases h)
            refine Good.done (retN X41 hx (t := .boolean) Bd.returns (by simp) (hb hby at_122) hr42) hrun42 hended42 ⟨_, _, rfl, ?_, ⟨_, rfl⟩, hW42, hsame42.mono (by decide) (by decide)⟩
            show Q0 Z q0 p1 h0 n0 _ T41.heap _
            rw [eh41]
            exact ⟨rfl, N41⟩
          · rw [if_neg hb62_40]
            show Good p e below _ (T39.setTop (mkF m 62 #[.val (.long q0), .second, .val (.int p1), .val (.int tt), .val (.int (tt % (8 : Int32))), .val (.int (tt / (8 : Int32))), .unset, .unset] [(.int (0 : Int32))]))
            refine Good.back (fun _ k => XS.ifNo X39.here hx rfl (hb hby at_62) rfl ((if0 _ _).trans (teq (by decide : ((0 : Int32) = (0 : Int32)))).2) k) ?_
            show Good p e below _ (T39.setTop (mkF m 65 #[.val (.long q0), .second, .val (.int p1), .val (.int tt), .val (.int (tt % (8 : Int32))), .val (.int (tt / (8 : Int32))), .unset, .unset] []))
            refine Good.back (fun _ k => XS.iload X39.here hx rfl (hb hby at_65) rfl k) ?_
            show Good p e below _ (T39.setTop (mkF m 67 #[.val (.long q0), .second, .val (.int p1), .val (.int tt), .val (.int (tt % (8 : Int32))), .val (.int (tt / (8 : Int32))), .unset, .unset] [(.int (tt / (8 : Int32)))]))
            refine Good.back (fun _ k => XS.bipush X39.here hx rfl (hb hby at_67) k) ?_
            show Good p e below _ (T39.setTop (mkF m 69 #[.val (.long q0), .second, .val (.int p1), .val (.int tt), .val (.int (tt % (8 : Int32))), .val (.int (tt / (8 : Int32))), .unset, .unset] [(.int (7 : Int32)), (.int (tt / (8 : Int32)))]))
            by_cases hc69_43 : (tt / (8 : Int32)) < (7 : Int32)
            · refine Good.back (fun _ k => XS.icmpNo X39.here hx rfl (hb hby at_69) rfl (tlt hc69_43).2.1 k) ?_
              show Good p e below _ (T39.setTop (mkF m 72 #[.val (.long q0), .second, .val (.int p1), .val (.int tt), .val (.int (tt % (8 : Int32))), .val (.int (tt / (8 : Int32))), .unset, .unset] []))
              refine Good.back (fun _ k => XS.lloadN X39.here hx rfl (hb hby at_72) rfl k) ?_
              show Good p e below _ (T39.setTop (mkF m 73 #[.val (.long q0), .second, .val (.int p1), .val (.int tt), .val (.int (tt % (8 : Int32))), .val (.int (tt / (8 : Int32))), .unset, .unset] [(.long q0)]))
              refine Good.back (fun _ k => XS.iloadN X39.here hx rfl (hb hby at_73) rfl k) ?_
              show Good p e below _ (T39.setTop (mkF m 74 #[.val (.long q0), .second, .val (.int p1), .val (.int tt), .val (.int (tt % (8 : Int32))), .val (.int (tt / (8 : Int32))), .unset, .unset] [(.int tt), (.long q0)]))
              refine Good.back (fun _ k => XS.bipush X39.here hx rfl (hb hby at_74) k) ?_
              show Good p e below _ (T39.setTop (mkF m 76 #[.val (.long q0), .second, .val (.int p1), .val (.int tt), .val (.int (tt % (8 : Int32))), .val (.int (tt / (8 : Int32))), .unset, .unset] [(.int (8 : Int32)), (.int tt), (.long q0)]))
              refine Good.back (fun _ k => XS.iadd X39.here hx rfl (hb hby at_76) rfl k) ?_
              show Good p e below _ (T39.setTop (mkF m 77 #[.val (.long q0), .second, .val (.int p1), .val (.int tt), .val (.int (tt % (8 : Int32))), .val (.int (tt / (8 : Int32))), .unset, .unset] [(.int (tt + (8 : Int32))), (.long q0)]))
              obtain ⟨_, _, ⟨T44, L44, k44, n44⟩, -, X44, ⟨Lc44, hQ44, l44, y44, z44⟩, st44⟩ := Jvm.LawKit.callS X39 hx (y := (⟨"com/example/trinode/trinode/troll/BoardNeighboursPinLaw", "has", "(JI)Z"⟩ : MethodName)) hown (mvT hZ (hw _ (List.mem_of_getElem? (i := 0) rfl))) (mvT hZ (hw _ (List.mem_of_getElem? (i := 1) rfl))) (mvT hZ (hw _ (List.mem_of_getElem? (i := 2) rfl))) (mvT hZ (hw _ (List.mem_of_getElem? (i := 3) rfl))) (by decide) (backOf (W := 0) (rm1 l Z a0 hw [] q0 (tt + (8 : Int32))  h0 n0 Z0 ) hZ (hw _ (List.mem_of_getElem? (i := 3) rfl)) (hw _ (List.mem_of_getElem? (i := 2) rfl)) (by decide) (by decide)) (g := (mkF m 77 #[.val (.long q0), .second, .val (.int p1), .val (.int tt), .val (.int (tt % (8 : Int32))), .val (.int (tt / (8 : Int32))), .unset, .unset] [(.int (tt + (8 : Int32))), (.long q0)])) rfl (by rw [hml]; rfl) (argsL := [(.long q0), (.int (tt + (8 : Int32)))]) (rest := []) (lenOf own_pd36 rfl) rfl (by show 2 * 0 + _ ≤ _; exact Nat.le_of_eq rfl) (hb hby at_77) (fun _ _ => ⟨rfl, eh39, (by decide : 0 + 0 ≤ _), (by decide : 0 + 0 ≤ _)⟩)
              dsimp only [Pt.U, Pt.locs, Pt.cells, Pt.slots] at X44 l44 y44 z44 st44 hQ44
              subst l44 y44 z44
              obtain ⟨rfl, N44q, eh44⟩ := hQ44
              have N44 := Fr.app N39 N44q
              refine Good.back st44 ?_
              show Good p e below _ (T44.setTop (mkF m 80 #[.val (.long q0), .second, .val (.int p1), .val (.int tt), .val (.int (tt % (8 : Int32))), .val (.int (tt / (8 : Int32))), .unset, .unset] [(.int (if own_has q0 (tt + (8 : Int32)) then (1 : Int32) else (0 : Int32)))]))
              by_cases hb80_45 : own_has q0 (tt + (8 : Int32))
              · rw [if_pos hb80_45]
                show Good p e below _ (T44.setTop (mkF m 80 #[.val (.long q0), .second, .val (.int p1), .val (.int tt), .val (.int (tt % (8 : Int32))), .val (.int (tt / (8 : Int32))), .unset, .unset] [(.int (1 : Int32))]))
                refine Good.back (fun _ k => XS.ifNo X44.here hx rfl (hb hby at_80) rfl ((if0 _ _).trans (feq (by decide : ¬ ((1 : Int32) = (0 : Int32)))).1) k) ?_
                show Good p e below _ (T44.setTop (mkF m 83 #[.val (.long q0), .second, .val (.int p1), .val (.int tt), .val (.int (tt % (8 : Int32))), .val (.int (tt / (8 : Int32))), .unset, .unset] []))
                refine Good.back (fun _ k => XS.iconst X44.here hx rfl (hb hby at_83) k) ?_
                show Good p e below _ (T44.setTop (mkF m 84 #[.val (.long q0), .second, .val (.int p1), .val (.int tt), .val (.int (tt % (8 : Int32))), .val (.int (tt / (8 : Int32))), .unset, .unset] [(.int (1 : Int32))]))
                refine Good.back (fun _ k => XS.goto X44.here hx rfl (pc0 := 84) (pc' := 88) rfl (hb hby at_84) (by decide) (by decide) k) ?_
                show Good p e below _ (T44.setTop (mkF m 88 #[.val (.long q0), .second, .val (.int p1), .val (.int tt), .val (.int (tt % (8 : Int32))), .val (.int (tt / (8 : Int32))), .unset, .unset] [(.int (1 : Int32))]))
                refine Good.back (fun _ k => XS.istore X44.here hx rfl (hb hby at_88) rfl (l' := #[.val (.long q0), .second, .val (.int p1), .val (.int tt), .val (.int (tt % (8 : Int32))), .val (.int (tt / (8 : Int32))), .val (.int (1 : Int32)), .unset]) rfl k) ?_
                show Good p e below _ (T44.setTop (mkF m 90 #[.val (.long q0), .second, .val (.int p1), .val (.int tt), .val (.int (tt % (8 : Int32))), .val (.int (tt / (8 : Int32))), .val (.int (1 : Int32)), .unset] []))
                refine Good.back (fun _ k => XS.lloadN X44.here hx rfl (hb hby at_90) rfl k) ?_
                show Good p e below _ (T44.setTop (mkF m 91 #[.val (.long q0), .second, .val (.int p1), .val (.int tt), .val (.int (tt % (8 : Int32))), .val (.int (tt / (8 : Int32))), .val (.int (1 : Int32)), .unset] [(.long q0)]))
                obtain ⟨_, _, ⟨T46, L46, k46, n46⟩, -, X46, ⟨Lc46, hQ46, l46, y46, z46⟩, st46⟩ := Jvm.LawKit.callS X44 hx (y := (⟨"com/example/trinode/trinode/troll/Board", "neighbours", "(J)J"⟩ : MethodName)) hown (mvT hZ (hw _ (List.mem_of_getElem? (i := 4) rfl))) (mvT hZ (hw _ (List.mem_of_getElem? (i := 5) rfl))) (mvT hZ (hw _ (List.mem_of_getElem? (i := 6) rfl))) (mvT hZ (hw _ (List.mem_of_getElem? (i := 7) rfl))) (by decide) (backOf (W := 0) (rm2 l Z a0 hw [] q0  h0 n0 Z0 ) hZ (hw _ (List.mem_of_getElem? (i := 7) rfl)) (hw _ (List.mem_of_getElem? (i := 6) rfl)) (by decide) (by decide)) (g := (mkF m 91 #[.val (.long q0), .second, .val (.int p1), .val (.int tt), .val (.int (tt % (8 : Int32))), .val (.int (tt / (8 : Int32))), .val (.int (1 : Int32)), .unset] [(.long q0)])) rfl (by rw [hml]; rfl) (argsL := [(.long q0)]) (rest := []) (lenOf own_pd37 rfl) rfl (by show 2 * 0 + _ ≤ _; exact Nat.le_of_eq rfl) (hb hby at_91) (fun _ _ => ⟨rfl, eh44, (by decide : 0 + 0 ≤ _), (by decide : 0 + 0 ≤ _)⟩)
                dsimp only [Pt.U, Pt.locs, Pt.cells, Pt.slots] at X46 l46 y46 z46 st46 hQ46
                subst l46 y46 z46
                obtain ⟨rfl, N46q, eh46⟩ := hQ46
                have N46 := Fr.app N44 N46q
                refine Good.back st46 ?_
                show Good p e below _ (T46.setTop (mkF m 94 #[.val (.long q0), .second, .val (.int p1), .val (.int tt), .val (.int (tt % (8 : Int32))), .val (.int (tt / (8 : Int32))), .val (.int (1 : Int32)), .unset] [(.long (own_nb q0))]))
                refine Good.back (fun _ k => XS.iloadN X46.here hx rfl (hb hby at_94) rfl k) ?_
                show Good p e below _ (T46.setTop (mkF m 95 #[.val (.long q0), .second, .val (.int p1), .val (.int tt), .val (.int (tt % (8 : Int32))), .val (.int (tt / (8 : Int32))), .val (.int (1 : Int32)), .unset] [(.int tt), (.long (own_nb q0))]))
                refine Good.back (fun _ k => XS.lushr X46.here hx rfl (hb hby at_95) rfl k) ?_
                show Good p e below _ (T46.setTop (mkF m 96 #[.val (.long q0), .second, .val (.int p1), .val (.int tt), .val (.int (tt % (8 : Int32))), .val (.int (tt / (8 : Int32))), .val (.int (1 : Int32)), .unset] [(.long (((own_nb q0).toUInt64 >>> (tt &&& 0x3f).toInt64.toUInt64).toInt64))]))
                refine Good.back (fun _ k => XS.lconst X46.here hx rfl (hb hby at_96) k) ?_
                show Good p e below _ (T46.setTop (mkF m 97 #[.val (.long q0), .second, .val (.int p1), .val (.int tt), .val (.int (tt % (8 : Int32))), .val (.int (tt / (8 : Int32))), .val (.int (1 : Int32)), .unset] [(.long (1 : Int64)), (.long (((own_nb q0).toUInt64 >>> (tt &&& 0x3f).toInt64.toUInt64).toInt64))]))
                refine Good.back (fun _ k => XS.land X46.here hx rfl (hb hby at_97) rfl k) ?_
                show Good p e below _ (T46.setTop (mkF m 98 #[.val (.long q0), .second, .val (.int p1), .val (.int tt), .val (.int (tt % (8 : Int32))), .val (.int (tt / (8 : Int32))), .val (.int (1 : Int32)), .unset] [(.long ((((own_nb q0).toUInt64 >>> (tt &&& 0x3f).toInt64.toUInt64).toInt64) &&& (1 : Int64)))]))
                refine Good.back (fun _ k => XS.lconst X46.here hx rfl (hb hby at_98) k) ?_
                show Good p e below _ (T46.setTop (mkF m 99 #[.val (.long q0), .second, .val (.int p1), .val (.int tt), .val (.int (tt % (8 : Int32))), .val (.int (tt / (8 : Int32))), .val (.int (1 : Int32)), .unset] [(.long (0 : Int64)), (.long ((((own_nb q0).toUInt64 >>> (tt &&& 0x3f).toInt64.toUInt64).toInt64) &&& (1 : Int64)))]))
                refine Good.back (fun _ k => XS.lcmp X46.here hx rfl (hb hby at_99) rfl k) ?_
                show Good p e below _ (T46.setTop (mkF m 100 #[.val (.long q0), .second, .val (.int p1), .val (.int tt), .val (.int (tt % (8 : Int32))), .val (.int (tt / (8 : Int32))), .val (.int (1 : Int32)), .unset] [(.int (lcmpW ((((own_nb q0).toUInt64 >>> (tt &&& 0x3f).toInt64.toUInt64).toInt64) &&& (1 : Int64)) (0 : Int64)))]))
                refine Good.back (fun _ k => XS.ifNo X46.here hx rfl (hb hby at_100) rfl ((if0 _ _).trans (feq (fun q => ((own_law q0 tt t0 t1).mpr (Or.inr (Or.inr (Or.inr (⟨hc69_43, hb80_45⟩))))) ((lw_eq _ _).mp q))).1) k) ?_
                show Good p e below _ (T46.setTop (mkF m 103 #[.val (.long q0), .second, .val (.int p1), .val (.int tt), .val (.int (tt % (8 : Int32))), .val (.int (tt / (8 : Int32))), .val (.int (1 : Int32)), .unset] []))
                refine Good.back (fun _ k => XS.iconst X46.here hx rfl (hb hby at_103) k) ?_
                show Good p e below _ (T46.setTop (mkF m 104 #[.val (.long q0), .second, .val (.int p1), .val (.int tt), .val (.int (tt % (8 : Int32))), .val (.int (tt / (8 : Int32))), .val (.int (1 : Int32)), .unset] [(.int (1 : Int32))]))
                refine Good.back (fun _ k => XS.goto X46.here hx rfl (pc0 := 104) (pc' := 108) rfl (hb hby at_104) (by decide) (by decide) k) ?_
                show Good p e below _ (T46.setTop (mkF m 108 #[.val (.long q0), .second, .val (.int p1), .val (.int tt), .val (.int (tt % (8 : Int32))), .val (.int (tt / (8 : Int32))), .val (.int (1 : Int32)), .unset] [(.int (1 : Int32))]))
                refine Good.back (fun _ k => XS.istore X46.here hx rfl (hb hby at_108) rfl (l' := #[.val (.long q0), .second, .val (.int p1), .val (.int tt), .val (.int (tt % (8 : Int32))), .val (.int (tt / (8 : Int32))), .val (.int (1 : Int32)), .val (.int (1 : Int32))]) rfl k) ?_
                show Good p e below _ (T46.setTop (mkF m 110 #[.val (.long q0), .second, .val (.int p1), .val (.int tt), .val (.int (tt % (8 : Int32))), .val (.int (tt / (8 : Int32))), .val (.int (1 : Int32)), .val (.int (1 : Int32))] []))
                refine Good.back (fun _ k => XS.iload X46.here hx rfl (hb hby at_110) rfl k) ?_
                show Good p e below _ (T46.setTop (mkF m 112 #[.val (.long q0), .second, .val (.int p1), .val (.int tt), .val (.int (tt % (8 : Int32))), .val (.int (tt / (8 : Int32))), .val (.int (1 : Int32)), .val (.int (1 : Int32))] [(.int (1 : Int32))]))
                refine Good.back (fun _ k => XS.iload X46.here hx rfl (hb hby at_112) rfl k) ?_
                show Good p e below _ (T46.setTop (mkF m 114 #[.val (.long q0), .second, .val (.int p1), .val (.int tt), .val (.int (tt % (8 : Int32))), .val (.int (tt / (8 : Int32))), .val (.int (1 : Int32)), .val (.int (1 : Int32))] [(.int (1 : Int32)), (.int (1 : Int32))]))
                refine Good.back (fun _ k => XS.icmpNo X46.here hx rfl (hb hby at_114) rfl (teq (by decide : ((1 : Int32) = (1 : Int32)))).2 k) ?_
                show Good p e below _ (T46.setTop (mkF m 117 #[.val (.long q0), .second, .val (.int p1), .val (.int tt), .val (.int (tt % (8 : Int32))), .val (.int (tt / (8 : Int32))), .val (.int (1 : Int32)), .val (.int (1 : Int32))] []))
                refine Good.back (fun _ k => XS.iconst X46.here hx rfl (hb hby at_117) k) ?_
                show Good p e below _ (T46.setTop (mkF m 118 #[.val (.long q0), .second, .val (.int p1), .val (.int tt), .val (.int (tt % (8 : Int32))), .val (.int (tt / (8 : Int32))), .val (.int (1 : Int32)), .val (.int (1 : Int32))] [(.int (1 : Int32))]))
                refine Good.back (fun _ k => XS.goto X46.here hx rfl (pc0 := 118) (pc' := 122) rfl (hb hby at_118) (by decide) (by decide) k) ?_
                show Good p e below _ (T46.setTop (mkF m 122 #[.val (.long q0), .second, .val (.int p1), .val (.int tt), .val (.int (tt % (8 : Int32))), .val (.int (tt / (8 : Int32))), .val (.int (1 : Int32)), .val (.int (1 : Int32))] [(.int (1 : Int32))]))
                obtain ⟨fs47, hr47, hrun47, hended47, hW47, hsame47⟩ := X46.leave (v := some (.int (1 : Int32))) (fun h => by rw [Bd.returns] at h; cases h)
                refine Good.done (retN X46 hx (t := .boolean) Bd.returns (by simp) (hb hby at_122) hr47) hrun47 hended47 ⟨_, _, rfl, ?_, ⟨_, rfl⟩, hW47, hsame47.mono (by decide) (by decide)⟩
                show Q0 Z q0 p1 h0 n0 _ T46.heap _
                rw [eh46]
                exact ⟨rfl, N46⟩
              · rw [if_neg hb80_45]
                show Good p e below _ (T44.setTop (mkF m 80 #[.val (.long q0), .second, .val (.int p1), .val (.int tt), .val (.int (tt % (8 : Int32))), .val (.int (tt / (8 : Int32))), .unset, .unset] [(.int (0 : Int32))]))
                refine Good.back (fun _ k => XS.ifYes X44.here hx rfl (pc0 := 80) (pc' := 87) rfl (hb hby at_80) rfl ((if0 _ _).trans (teq (by decide : ((0 : Int32) = (0 : Int32)))).1) (by decide) (by decide) k) ?_
                show Good p e below _ (T44.setTop (mkF m 87 #[.val (.long q0), .second, .val (.int p1), .val (.int tt), .val (.int (tt % (8 : Int32))), .val (.int (tt / (8 : Int32))), .unset, .unset] []))
                refine Good.back (fun _ k => XS.iconst X44.here hx rfl (hb hby at_87) k) ?_
                show Good p e below _ (T44.setTop (mkF m 88 #[.val (.long q0), .second, .val (.int p1), .val (.int tt), .val (.int (tt % (8 : Int32))), .val (.int (tt / (8 : Int32))), .unset, .unset] [(.int (0 : Int32))]))
                refine Good.back (fun _ k => XS.istore X44.here hx rfl (hb hby at_88) rfl (l' := #[.val (.long q0), .second, .val (.int p1), .val (.int tt), .val (.int (tt % (8 : Int32))), .val (.int (tt / (8 : Int32))), .val (.int (0 : Int32)), .unset]) rfl k) ?_
                show Good p e below _ (T44.setTop (mkF m 90 #[.val (.long q0), .second, .val (.int p1), .val (.int tt), .val (.int (tt % (8 : Int32))), .val (.int (tt / (8 : Int32))), .val (.int (0 : Int32)), .unset] []))
                refine Good.back (fun _ k => XS.lloadN X44.here hx rfl (hb hby at_90) rfl k) ?_
                show Good p e below _ (T44.setTop (mkF m 91 #[.val (.long q0), .second, .val (.int p1), .val (.int tt), .val (.int (tt % (8 : Int32))), .val (.int (tt / (8 : Int32))), .val (.int (0 : Int32)), .unset] [(.long q0)]))
                obtain ⟨_, _, ⟨T48, L48, k48, n48⟩, -, X48, ⟨Lc48, hQ48, l48, y48, z48⟩, st48⟩ := Jvm.LawKit.callS X44 hx (y := (⟨"com/example/trinode/trinode/troll/Board", "neighbours", "(J)J"⟩ : MethodName)) hown (mvT hZ (hw _ (List.mem_of_getElem? (i := 4) rfl))) (mvT hZ (hw _ (List.mem_of_getElem? (i := 5) rfl))) (mvT hZ (hw _ (List.mem_of_getElem? (i := 6) rfl))) (mvT hZ (hw _ (List.mem_of_getElem? (i := 7) rfl))) (by decide) (backOf (W := 0) (rm2 l Z a0 hw [] q0  h0 n0 Z0 ) hZ (hw _ (List.mem_of_getElem? (i := 7) rfl)) (hw _ (List.mem_of_getElem? (i := 6) rfl)) (by decide) (by decide)) (g := (mkF m 91 #[.val (.long q0), .second, .val (.int p1), .val (.int tt), .val (.int (tt % (8 : Int32))), .val (.int (tt / (8 : Int32))), .val (.int (0 : Int32)), .unset] [(.long q0)])) rfl (by rw [hml]; rfl) (argsL := [(.long q0)]) (rest := []) (lenOf own_pd37 rfl) rfl (by show 2 * 0 + _ ≤ _; exact Nat.le_of_eq rfl) (hb hby at_91) (fun _ _ => ⟨rfl, eh44, (by decide : 0 + 0 ≤ _), (by decide : 0 + 0 ≤ _)⟩)
                dsimp only [Pt.U, Pt.locs, Pt.cells, Pt.slots] at X48 l48 y48 z48 st48 hQ48
                subst l48 y48 z48
                obtain ⟨rfl, N48q, eh48⟩ := hQ48
                have N48 := Fr.app N44 N48q
                refine Good.back st48 ?_
                show Good p e below _ (T48.setTop (mkF m 94 #[.val (.long q0), .second, .val (.int p1), .val (.int tt), .val (.int (tt % (8 : Int32))), .val (.int (tt / (8 : Int32))), .val (.int (0 : Int32)), .unset] [(.long (own_nb q0))]))
                refine Good.back (fun _ k => XS.iloadN X48.here hx rfl (hb hby at_94) rfl k) ?_
                show Good p e below _ (T48.setTop (mkF m 95 #[.val (.long q0), .second, .val (.int p1), .val (.int tt), .val (.int (tt % (8 : Int32))), .val (.int (tt / (8 : Int32))), .val (.int (0 : Int32)), .unset] [(.int tt), (.long (own_nb q0))]))
                refine Good.back (fun _ k => XS.lushr X48.here hx rfl (hb hby at_95) rfl k) ?_
                show Good p e below _ (T48.setTop (mkF m 96 #[.val (.long q0), .second, .val (.int p1), .val (.int tt), .val (.int (tt % (8 : Int32))), .val (.int (tt / (8 : Int32))), .val (.int (0 : Int32)), .unset] [(.long (((own_nb q0).toUInt64 >>> (tt &&& 0x3f).toInt64.toUInt64).toInt64))]))
                refine Good.back (fun _ k => XS.lconst X48.here hx rfl (hb hby at_96) k) ?_
                show Good p e below _ (T48.setTop (mkF m 97 #[.val (.long q0), .second, .val (.int p1), .val (.int tt), .val (.int (tt % (8 : Int32))), .val (.int (tt / (8 : Int32))), .val (.int (0 : Int32)), .unset] [(.long (1 : Int64)), (.long (((own_nb q0).toUInt64 >>> (tt &&& 0x3f).toInt64.toUInt64).toInt64))]))
                refine Good.back (fun _ k => XS.land X48.here hx rfl (hb hby at_97) rfl k) ?_
                show Good p e below _ (T48.setTop (mkF m 98 #[.val (.long q0), .second, .val (.int p1), .val (.int tt), .val (.int (tt % (8 : Int32))), .val (.int (tt / (8 : Int32))), .val (.int (0 : Int32)), .unset] [(.long ((((own_nb q0).toUInt64 >>> (tt &&& 0x3f).toInt64.toUInt64).toInt64) &&& (1 : Int64)))]))
                refine Good.back (fun _ k => XS.lconst X48.here hx rfl (hb hby at_98) k) ?_
                show Good p e below _ (T48.setTop (mkF m 99 #[.val (.long q0), .second, .val (.int p1), .val (.int tt), .val (.int (tt % (8 : Int32))), .val (.int (tt / (8 : Int32))), .val (.int (0 : Int32)), .unset] [(.long (0 : Int64)), (.long ((((own_nb q0).toUInt64 >>> (tt &&& 0x3f).toInt64.toUInt64).toInt64) &&& (1 : Int64)))]))
                refine Good.back (fun _ k => XS.lcmp X48.here hx rfl (hb hby at_99) rfl k) ?_
                show Good p e below _ (T48.setTop (mkF m 100 #[.val (.long q0), .second, .val (.int p1), .val (.int tt), .val (.int (tt % (8 : Int32))), .val (.int (tt / (8 : Int32))), .val (.int (0 : Int32)), .unset] [(.int (lcmpW ((((own_nb q0).toUInt64 >>> (tt &&& 0x3f).toInt64.toUInt64).toInt64) &&& (1 : Int64)) (0 : Int64)))]))
                have hno49 : ¬ own_has (own_nb q0) tt := fun y => by
                  rcases (own_law q0 tt t0 t1).mp y with x | x | x | x
                  · exact hb29_3 x.2
                  · exact hc36_6 x.1
                  · exact hb62_40 x.2
                  · exact hb80_45 x.2
                refine Good.back (fun _ k => XS.ifYes X48.here hx rfl (pc0 := 100) (pc' := 107) rfl (hb hby at_100) rfl ((if0 _ _).trans (teq ((lw_eq _ _).mpr (Classical.byContradiction fun y => hno49 y) : (lcmpW ((((own_nb q0).toUInt64 >>> (tt &&& 0x3f).toInt64.toUInt64).toInt64) &&& (1 : Int64)) (0 : Int64)) = (0 : Int32))).1) (by decide) (by decide) k) ?_
                show Good p e below _ (T48.setTop (mkF m 107 #[.val (.long q0), .second, .val (.int p1), .val (.int tt), .val (.int (tt % (8 : Int32))), .val (.int (tt / (8 : Int32))), .val (.int (0 : Int32)), .unset] []))
                refine Good.back (fun _ k => XS.iconst X48.here hx rfl (hb hby at_107) k) ?_
                show Good p e below _ (T48.setTop (mkF m 108 #[.val (.long q0), .second, .val (.int p1), .val (.int tt), .val (.int (tt % (8 : Int32))), .val (.int (tt / (8 : Int32))), .val (.int (0 : Int32)), .unset] [(.int (0 : Int32))]))
                refine Good.back (fun _ k => XS.istore X48.here hx rfl (hb hby at_108) rfl (l' := #[.val (.long q0), .second, .val (.int p1), .val (.int tt), .val (.int (tt % (8 : Int32))), .val (.int (tt / (8 : Int32))), .val (.int (0 : Int32)), .val (.int (0 : Int32))]) rfl k) ?_
                show Good p e below _ (T48.setTop (mkF m 110 #[.val (.long q0), .second, .val (.int p1), .val (.int tt), .val (.int (tt % (8 : Int32))), .val (.int (tt / (8 : Int32))), .val (.int (0 : Int32)), .val (.int (0 : Int32))] []))
                refine Good.back (fun _ k => XS.iload X48.here hx rfl (hb hby at_110) rfl k) ?_
                show Good p e below _ (T48.setTop (mkF m 112 #[.val (.long q0), .second, .val (.int p1), .val (.int tt), .val (.int (tt % (8 : Int32))), .val (.int (tt / (8 : Int32))), .val (.int (0 : Int32)), .val (.int (0 : Int32))] [(.int (0 : Int32))]))
                refine Good.back (fun _ k => XS.iload X48.here hx rfl (hb hby at_112) rfl k) ?_
                show Good p e below _ (T48.setTop (mkF m 114 #[.val (.long q0), .second, .val (.int p1), .val (.int tt), .val (.int (tt % (8 : Int32))), .val (.int (tt / (8 : Int32))), .val (.int (0 : Int32)), .val (.int (0 : Int32))] [(.int (0 : Int32)), (.int (0 : Int32))]))
                refine Good.back (fun _ k => XS.icmpNo X48.here hx rfl (hb hby at_114) rfl (teq (by decide : ((0 : Int32) = (0 : Int32)))).2 k) ?_
                show Good p e below _ (T48.setTop (mkF m 117 #[.val (.long q0), .second, .val (.int p1), .val (.int tt), .val (.int (tt % (8 : Int32))), .val (.int (tt / (8 : Int32))), .val (.int (0 : Int32)), .val (.int (0 : Int32))] []))
                refine Good.back (fun _ k => XS.iconst X48.here hx rfl (hb hby at_117) k) ?_
                show Good p e below _ (T48.setTop (mkF m 118 #[.val (.long q0), .second, .val (.int p1), .val (.int tt), .val (.int (tt % (8 : Int32))), .val (.int (tt / (8 : Int32))), .val (.int (0 : Int32)), .val (.int (0 : Int32))] [(.int (1 : Int32))]))
                refine Good.back (fun _ k => XS.goto X48.here hx rfl (pc0 := 118) (pc' := 122) rfl (hb hby at_118) (by decide) (by decide) k) ?_
                show Good p e below _ (T48.setTop (mkF m 122 #[.val (.long q0), .second, .val (.int p1), .val (.int tt), .val (.int (tt % (8 : Int32))), .val (.int (tt / (8 : Int32))), .val (.int (0 : Int32)), .val (.int (0 : Int32))] [(.int (1 : Int32))]))
                obtain ⟨fs50, hr50, hrun50, hended50, hW50, hsame50⟩ := X48.leave (v := some (.int (1 : Int32))) (fun h => by rw [Bd.returns] at h; cases h)
                refine Good.done (retN X48 hx (t := .boolean) Bd.returns (by simp) (hb hby at_122) hr50) hrun50 hended50 ⟨_, _, rfl, ?_, ⟨_, rfl⟩, hW50, hsame50.mono (by decide) (by decide)⟩
                show Q0 Z q0 p1 h0 n0 _ T48.heap _
                rw [eh48]
                exact ⟨rfl, N48⟩
            · refine Good.back (fun _ k => XS.icmpYes X39.here hx rfl (pc0 := 69) (pc' := 87) rfl (hb hby at_69) rfl (flt hc69_43).2.1 (by decide) (by decide) k) ?_
              show Good p e below _ (T39.setTop (mkF m 87 #[.val (.long q0), .second, .val (.int p1), .val (.int tt), .val (.int (tt % (8 : Int32))), .val (.int (tt / (8 : Int32))), .unset, .unset] []))
              refine Good.back (fun _ k => XS.iconst X39.here hx rfl (hb hby at_87) k) ?_
              show Good p e below _ (T39.setTop (mkF m 88 #[.val (.long q0), .second, .val (.int p1), .val (.int tt), .val (.int (tt % (8 : Int32))), .val (.int (tt / (8 : Int32))), .unset, .unset] [(.int (0 : Int32))]))
              refine Good.back (fun _ k => XS.istore X39.here hx rfl (hb hby at_88) rfl (l' := #[.val (.long q0), .second, .val (.int p1), .val (.int tt), .val (.int (tt % (8 : Int32))), .val (.int (tt / (8 : Int32))), .val (.int (0 : Int32)), .unset]) rfl k) ?_
              show Good p e below _ (T39.setTop (mkF m 90 #[.val (.long q0), .second, .val (.int p1), .val (.int tt), .val (.int (tt % (8 : Int32))), .val (.int (tt / (8 : Int32))), .val (.int (0 : Int32)), .unset] []))
              refine Good.back (fun _ k => XS.lloadN X39.here hx rfl (hb hby at_90) rfl k) ?_
              show Good p e below _ (T39.setTop (mkF m 91 #[.val (.long q0), .second, .val (.int p1), .val (.int tt), .val (.int (tt % (8 : Int32))), .val (.int (tt / (8 : Int32))), .val (.int (0 : Int32)), .unset] [(.long q0)]))
              obtain ⟨_, _, ⟨T51, L51, k51, n51⟩, -, X51, ⟨Lc51, hQ51, l51, y51, z51⟩, st51⟩ := Jvm.LawKit.callS X39 hx (y := (⟨"com/example/trinode/trinode/troll/Board", "neighbours", "(J)J"⟩ : MethodName)) hown (mvT hZ (hw _ (List.mem_of_getElem? (i := 4) rfl))) (mvT hZ (hw _ (List.mem_of_getElem? (i := 5) rfl))) (mvT hZ (hw _ (List.mem_of_getElem? (i := 6) rfl))) (mvT hZ (hw _ (List.mem_of_getElem? (i := 7) rfl))) (by decide) (backOf (W := 0) (rm2 l Z a0 hw [] q0  h0 n0 Z0 ) hZ (hw _ (List.mem_of_getElem? (i := 7) rfl)) (hw _ (List.mem_of_getElem? (i := 6) rfl)) (by decide) (by decide)) (g := (mkF m 91 #[.val (.long q0), .second, .val (.int p1), .val (.int tt), .val (.int (tt % (8 : Int32))), .val (.int (tt / (8 : Int32))), .val (.int (0 : Int32)), .unset] [(.long q0)])) rfl (by rw [hml]; rfl) (argsL := [(.long q0)]) (rest := []) (lenOf own_pd37 rfl) rfl (by show 2 * 0 + _ ≤ _; exact Nat.le_of_eq rfl) (hb hby at_91) (fun _ _ => ⟨rfl, eh39, (by decide : 0 + 0 ≤ _), (by decide : 0 + 0 ≤ _)⟩)
              dsimp only [Pt.U, Pt.locs, Pt.cells, Pt.slots] at X51 l51 y51 z51 st51 hQ51
              subst l51 y51 z51
              obtain ⟨rfl, N51q, eh51⟩ := hQ51
              have N51 := Fr.app N39 N51q
              refine Good.back st51 ?_
              show Good p e below _ (T51.setTop (mkF m 94 #[.val (.long q0), .second, .val (.int p1), .val (.int tt), .val (.int (tt % (8 : Int32))), .val (.int (tt / (8 : Int32))), .val (.int (0 : Int32)), .unset] [(.long (own_nb q0))]))
              refine Good.back (fun _ k => XS.iloadN X51.here hx rfl (hb hby at_94) rfl k) ?_
              show Good p e below _ (T51.setTop (mkF m 95 #[.val (.long q0), .second, .val (.int p1), .val (.int tt), .val (.int (tt % (8 : Int32))), .val (.int (tt / (8 : Int32))), .val (.int (0 : Int32)), .unset] [(.int tt), (.long (own_nb q0))]))
              refine Good.back (fun _ k => XS.lushr X51.here hx rfl (hb hby at_95) rfl k) ?_
              show Good p e below _ (T51.setTop (mkF m 96 #[.val (.long q0), .second, .val (.int p1), .val (.int tt), .val (.int (tt % (8 : Int32))), .val (.int (tt / (8 : Int32))), .val (.int (0 : Int32)), .unset] [(.long (((own_nb q0).toUInt64 >>> (tt &&& 0x3f).toInt64.toUInt64).toInt64))]))
              refine Good.back (fun _ k => XS.lconst X51.here hx rfl (hb hby at_96) k) ?_
              show Good p e below _ (T51.setTop (mkF m 97 #[.val (.long q0), .second, .val (.int p1), .val (.int tt), .val (.int (tt % (8 : Int32))), .val (.int (tt / (8 : Int32))), .val (.int (0 : Int32)), .unset] [(.long (1 : Int64)), (.long (((own_nb q0).toUInt64 >>> (tt &&& 0x3f).toInt64.toUInt64).toInt64))]))
              refine Good.back (fun _ k => XS.land X51.here hx rfl (hb hby at_97) rfl k) ?_
              show Good p e below _ (T51.setTop (mkF m 98 #[.val (.long q0), .second, .val (.int p1), .val (.int tt), .val (.int (tt % (8 : Int32))), .val (.int (tt / (8 : Int32))), .val (.int (0 : Int32)), .unset] [(.long ((((own_nb q0).toUInt64 >>> (tt &&& 0x3f).toInt64.toUInt64).toInt64) &&& (1 : Int64)))]))
              refine Good.back (fun _ k => XS.lconst X51.here hx rfl (hb hby at_98) k) ?_
              show Good p e below _ (T51.setTop (mkF m 99 #[.val (.long q0), .second, .val (.int p1), .val (.int tt), .val (.int (tt % (8 : Int32))), .val (.int (tt / (8 : Int32))), .val (.int (0 : Int32)), .unset] [(.long (0 : Int64)), (.long ((((own_nb q0).toUInt64 >>> (tt &&& 0x3f).toInt64.toUInt64).toInt64) &&& (1 : Int64)))]))
              refine Good.back (fun _ k => XS.lcmp X51.here hx rfl (hb hby at_99) rfl k) ?_
              show Good p e below _ (T51.setTop (mkF m 100 #[.val (.long q0), .second, .val (.int p1), .val (.int tt), .val (.int (tt % (8 : Int32))), .val (.int (tt / (8 : Int32))), .val (.int (0 : Int32)), .unset] [(.int (lcmpW ((((own_nb q0).toUInt64 >>> (tt &&& 0x3f).toInt64.toUInt64).toInt64) &&& (1 : Int64)) (0 : Int64)))]))
              have hno52 : ¬ own_has (own_nb q0) tt := fun y => by
                rcases (own_law q0 tt t0 t1).mp y with x | x | x | x
                · exact hb29_3 x.2
                · exact hc36_6 x.1
                · exact hb62_40 x.2
                · exact hc69_43 x.1
              refine Good.back (fun _ k => XS.ifYes X51.here hx rfl (pc0 := 100) (pc' := 107) rfl (hb hby at_100) rfl ((if0 _ _).trans (teq ((lw_eq _ _).mpr (Classical.byContradiction fun y => hno52 y) : (lcmpW ((((own_nb q0).toUInt64 >>> (tt &&& 0x3f).toInt64.toUInt64).toInt64) &&& (1 : Int64)) (0 : Int64)) = (0 : Int32))).1) (by decide) (by decide) k) ?_
              show Good p e below _ (T51.setTop (mkF m 107 #[.val (.long q0), .second, .val (.int p1), .val (.int tt), .val (.int (tt % (8 : Int32))), .val (.int (tt / (8 : Int32))), .val (.int (0 : Int32)), .unset] []))
              refine Good.back (fun _ k => XS.iconst X51.here hx rfl (hb hby at_107) k) ?_
              show Good p e below _ (T51.setTop (mkF m 108 #[.val (.long q0), .second, .val (.int p1), .val (.int tt), .val (.int (tt % (8 : Int32))), .val (.int (tt / (8 : Int32))), .val (.int (0 : Int32)), .unset] [(.int (0 : Int32))]))
              refine Good.back (fun _ k => XS.istore X51.here hx rfl (hb hby at_108) rfl (l' := #[.val (.long q0), .second, .val (.int p1), .val (.int tt), .val (.int (tt % (8 : Int32))), .val (.int (tt / (8 : Int32))), .val (.int (0 : Int32)), .val (.int (0 : Int32))]) rfl k) ?_
              show Good p e below _ (T51.setTop (mkF m 110 #[.val (.long q0), .second, .val (.int p1), .val (.int tt), .val (.int (tt % (8 : Int32))), .val (.int (tt / (8 : Int32))), .val (.int (0 : Int32)), .val (.int (0 : Int32))] []))
              refine Good.back (fun _ k => XS.iload X51.here hx rfl (hb hby at_110) rfl k) ?_
              show Good p e below _ (T51.setTop (mkF m 112 #[.val (.long q0), .second, .val (.int p1), .val (.int tt), .val (.int (tt % (8 : Int32))), .val (.int (tt / (8 : Int32))), .val (.int (0 : Int32)), .val (.int (0 : Int32))] [(.int (0 : Int32))]))
              refine Good.back (fun _ k => XS.iload X51.here hx rfl (hb hby at_112) rfl k) ?_
              show Good p e below _ (T51.setTop (mkF m 114 #[.val (.long q0), .second, .val (.int p1), .val (.int tt), .val (.int (tt % (8 : Int32))), .val (.int (tt / (8 : Int32))), .val (.int (0 : Int32)), .val (.int (0 : Int32))] [(.int (0 : Int32)), (.int (0 : Int32))]))
              refine Good.back (fun _ k => XS.icmpNo X51.here hx rfl (hb hby at_114) rfl (teq (by decide : ((0 : Int32) = (0 : Int32)))).2 k) ?_
              show Good p e below _ (T51.setTop (mkF m 117 #[.val (.long q0), .second, .val (.int p1), .val (.int tt), .val (.int (tt % (8 : Int32))), .val (.int (tt / (8 : Int32))), .val (.int (0 : Int32)), .val (.int (0 : Int32))] []))
              refine Good.back (fun _ k => XS.iconst X51.here hx rfl (hb hby at_117) k) ?_
              show Good p e below _ (T51.setTop (mkF m 118 #[.val (.long q0), .second, .val (.int p1), .val (.int tt), .val (.int (tt % (8 : Int32))), .val (.int (tt / (8 : Int32))), .val (.int (0 : Int32)), .val (.int (0 : Int32))] [(.int (1 : Int32))]))
              refine Good.back (fun _ k => XS.goto X51.here hx rfl (pc0 := 118) (pc' := 122) rfl (hb hby at_118) (by decide) (by decide) k) ?_
              show Good p e below _ (T51.setTop (mkF m 122 #[.val (.long q0), .second, .val (.int p1), .val (.int tt), .val (.int (tt % (8 : Int32))), .val (.int (tt / (8 : Int32))), .val (.int (0 : Int32)), .val (.int (0 : Int32))] [(.int (1 : Int32))]))
              obtain ⟨fs53, hr53, hrun53, hended53, hW53, hsame53⟩ := X51.leave (v := some (.int (1 : Int32))) (fun h => by rw [Bd.returns] at h; cases h)
              refine Good.done (retN X51 hx (t := .boolean) Bd.returns (by simp) (hb hby at_122) hr53) hrun53 hended53 ⟨_, _, rfl, ?_, ⟨_, rfl⟩, hW53, hsame53.mono (by decide) (by decide)⟩
              show Q0 Z q0 p1 h0 n0 _ T51.heap _
              rw [eh51]
              exact ⟨rfl, N51⟩
        · refine Good.back (fun _ k => XS.ifYes X2.here hx rfl (pc0 := 51) (pc' := 65) rfl (hb hby at_51) rfl ((if0 _ _).trans (flt hc51_38).2.2.2) (by decide) (by decide) k) ?_
          show Good p e below _ (T2.setTop (mkF m 65 #[.val (.long q0), .second, .val (.int p1), .val (.int tt), .val (.int (tt % (8 : Int32))), .val (.int (tt / (8 : Int32))), .unset, .unset] []))
          refine Good.back (fun _ k => XS.iload X2.here hx rfl (hb hby at_65) rfl k) ?_
          show Good p e below _ (T2.setTop (mkF m 67 #[.val (.long q0), .second, .val (.int p1), .val (.int tt), .val (.int (tt % (8 : Int32))), .val (.int (tt / (8 : Int32))), .unset, .unset] [(.int (tt / (8 : Int32)))]))
          refine Good.back (fun _ k => XS.bipush X2.here hx rfl (hb hby at_67) k) ?_
          show Good p e below _ (T2.setTop (mkF m 69 #[.val (.long q0), .second, .val (.int p1), .val (.int tt), .val (.int (tt % (8 : Int32))), .val (.int (tt / (8 : Int32))), .unset, .unset] [(.int (7 : Int32)), (.int (tt / (8 : Int32)))]))
          by_cases hc69_54 : (tt / (8 : Int32)) < (7 : Int32)
          · refine Good.back (fun _ k => XS.icmpNo X2.here hx rfl (hb hby at_69) rfl (tlt hc69_54).2.1 k) ?_
            show Good p e below _ (T2.setTop (mkF m 72 #[.val (.long q0), .second, .val (.int p1), .val (.int tt), .val (.int (tt % (8 : Int32))), .val (.int (tt / (8 : Int32))), .unset, .unset] []))
            refine Good.back (fun _ k => XS.lloadN X2.here hx rfl (hb hby at_72) rfl k) ?_
            show Good p e below _ (T2.setTop (mkF m 73 #[.val (.long q0), .second, .val (.int p1), .val (.int tt), .val (.int (tt % (8 : Int32))), .val (.int (tt / (8 : Int32))), .unset, .unset] [(.long q0)]))
            refine Good.back (fun _ k => XS.iloadN X2.here hx rfl (hb hby at_73) rfl k) ?_
            show Good p e below _ (T2.setTop (mkF m 74 #[.val (.long q0), .second, .val (.int p1), .val (.int tt), .val (.int (tt % (8 : Int32))), .val (.int (tt / (8 : Int32))), .unset, .unset] [(.int tt), (.long q0)]))
            refine Good.back (fun _ k => XS.bipush X2.here hx rfl (hb hby at_74) k) ?_
            show Good p e below _ (T2.setTop (mkF m 76 #[.val (.long q0), .second, .val (.int p1), .val (.int tt), .val (.int (tt % (8 : Int32))), .val (.int (tt / (8 : Int32))), .unset, .unset] [(.int (8 : Int32)), (.int tt), (.long q0)]))
            refine Good.back (fun _ k => XS.iadd X2.here hx rfl (hb hby at_76) rfl k) ?_
            show Good p e below _ (T2.setTop (mkF m 77 #[.val (.long q0), .second, .val (.int p1), .val (.int tt), .val (.int (tt % (8 : Int32))), .val (.int (tt / (8 : Int32))), .unset, .unset] [(.int (tt + (8 : Int32))), (.long q0)]))
            obtain ⟨_, _, ⟨T55, L55, k55, n55⟩, -, X55, ⟨Lc55, hQ55, l55, y55, z55⟩, st55⟩ := Jvm.LawKit.callS X2 hx (y := (⟨"com/example/trinode/trinode/troll/BoardNeighboursPinLaw", "has", "(JI)Z"⟩ : MethodName)) hown (mvT hZ (hw _ (List.mem_of_getElem? (i := 0) rfl))) (mvT hZ (hw _ (List.mem_of_getElem? (i := 1) rfl))) (mvT hZ (hw _ (List.mem_of_getElem? (i := 2) rfl))) (mvT hZ (hw _ (List.mem_of_getElem? (i := 3) rfl))) (by decide) (backOf (W := 0) (rm1 l Z a0 hw [] q0 (tt + (8 : Int32))  h0 n0 Z0 ) hZ (hw _ (List.mem_of_getElem? (i := 3) rfl)) (hw _ (List.mem_of_getElem? (i := 2) rfl)) (by decide) (by decide)) (g := (mkF m 77 #[.val (.long q0), .second, .val (.int p1), .val (.int tt), .val (.int (tt % (8 : Int32))), .val (.int (tt / (8 : Int32))), .unset, .unset] [(.int (tt + (8 : Int32))), (.long q0)])) rfl (by rw [hml]; rfl) (argsL := [(.long q0), (.int (tt + (8 : Int32)))]) (rest := []) (lenOf own_pd36 rfl) rfl (by show 2 * 0 + _ ≤ _; exact Nat.le_of_eq rfl) (hb hby at_77) (fun _ _ => ⟨rfl, eh2, (by decide : 0 + 0 ≤ _), (by decide : 0 + 0 ≤ _)⟩)
            dsimp only [Pt.U, Pt.locs, Pt.cells, Pt.slots] at X55 l55 y55 z55 st55 hQ55
            subst l55 y55 z55
            obtain ⟨rfl, N55q, eh55⟩ := hQ55
            have N55 := Fr.app N2 N55q
            refine Good.back st55 ?_
            show Good p e below _ (T55.setTop (mkF m 80 #[.val (.long q0), .second, .val (.int p1), .val (.int tt), .val (.int (tt % (8 : Int32))), .val (.int (tt / (8 : Int32))), .unset, .unset] [(.int (if own_has q0 (tt + (8 : Int32)) then (1 : Int32) else (0 : Int32)))]))
            by_cases hb80_56 : own_has q0 (tt + (8 : Int32))
            · rw [if_pos hb80_56]
              show Good p e below _ (T55.setTop (mkF m 80 #[.val (.long q0), .second, .val (.int p1), .val (.int tt), .val (.int (tt % (8 : Int32))), .val (.int (tt / (8 : Int32))), .unset, .unset] [(.int (1 : Int32))]))
              refine Good.back (fun _ k => XS.ifNo X55.here hx rfl (hb hby at_80) rfl ((if0 _ _).trans (feq (by decide : ¬ ((1 : Int32) = (0 : Int32)))).1) k) ?_
              show Good p e below _ (T55.setTop (mkF m 83 #[.val (.long q0), .second, .val (.int p1), .val (.int tt), .val (.int (tt % (8 : Int32))), .val (.int (tt / (8 : Int32))), .unset, .unset] []))
              refine Good.back (fun _ k => XS.iconst X55.here hx rfl (hb hby at_83) k) ?_
              show Good p e below _ (T55.setTop (mkF m 84 #[.val (.long q0), .second, .val (.int p1), .val (.int tt), .val (.int (tt % (8 : Int32))), .val (.int (tt / (8 : Int32))), .unset, .unset] [(.int (1 : Int32))]))
              refine Good.back (fun _ k => XS.goto X55.here hx rfl (pc0 := 84) (pc' := 88) rfl (hb hby at_84) (by decide) (by decide) k) ?_
              show Good p e below _ (T55.setTop (mkF m 88 #[.val (.long q0), .second, .val (.int p1), .val (.int tt), .val (.int (tt % (8 : Int32))), .val (.int (tt / (8 : Int32))), .unset, .unset] [(.int (1 : Int32))]))
              refine Good.back (fun _ k => XS.istore X55.here hx rfl (hb hby at_88) rfl (l' := #[.val (.long q0), .second, .val (.int p1), .val (.int tt), .val (.int (tt % (8 : Int32))), .val (.int (tt / (8 : Int32))), .val (.int (1 : Int32)), .unset]) rfl k) ?_
              show Good p e below _ (T55.setTop (mkF m 90 #[.val (.long q0), .second, .val (.int p1), .val (.int tt), .val (.int (tt % (8 : Int32))), .val (.int (tt / (8 : Int32))), .val (.int (1 : Int32)), .unset] []))
              refine Good.back (fun _ k => XS.lloadN X55.here hx rfl (hb hby at_90) rfl k) ?_
              show Good p e below _ (T55.setTop (mkF m 91 #[.val (.long q0), .second, .val (.int p1), .val (.int tt), .val (.int (tt % (8 : Int32))), .val (.int (tt / (8 : Int32))), .val (.int (1 : Int32)), .unset] [(.long q0)]))
              obtain ⟨_, _, ⟨T57, L57, k57, n57⟩, -, X57, ⟨Lc57, hQ57, l57, y57, z57⟩, st57⟩ := Jvm.LawKit.callS X55 hx (y := (⟨"com/example/trinode/trinode/troll/Board", "neighbours", "(J)J"⟩ : MethodName)) hown (mvT hZ (hw _ (List.mem_of_getElem? (i := 4) rfl))) (mvT hZ (hw _ (List.mem_of_getElem? (i := 5) rfl))) (mvT hZ (hw _ (List.mem_of_getElem? (i := 6) rfl))) (mvT hZ (hw _ (List.mem_of_getElem? (i := 7) rfl))) (by decide) (backOf (W := 0) (rm2 l Z a0 hw [] q0  h0 n0 Z0 ) hZ (hw _ (List.mem_of_getElem? (i := 7) rfl)) (hw _ (List.mem_of_getElem? (i := 6) rfl)) (by decide) (by decide)) (g := (mkF m 91 #[.val (.long q0), .second, .val (.int p1), .val (.int tt), .val (.int (tt % (8 : Int32))), .val (.int (tt / (8 : Int32))), .val (.int (1 : Int32)), .unset] [(.long q0)])) rfl (by rw [hml]; rfl) (argsL := [(.long q0)]) (rest := []) (lenOf own_pd37 rfl) rfl (by show 2 * 0 + _ ≤ _; exact Nat.le_of_eq rfl) (hb hby at_91) (fun _ _ => ⟨rfl, eh55, (by decide : 0 + 0 ≤ _), (by decide : 0 + 0 ≤ _)⟩)
              dsimp only [Pt.U, Pt.locs, Pt.cells, Pt.slots] at X57 l57 y57 z57 st57 hQ57
              subst l57 y57 z57
              obtain ⟨rfl, N57q, eh57⟩ := hQ57
              have N57 := Fr.app N55 N57q
              refine Good.back st57 ?_
              show Good p e below _ (T57.setTop (mkF m 94 #[.val (.long q0), .second, .val (.int p1), .val (.int tt), .val (.int (tt % (8 : Int32))), .val (.int (tt / (8 : Int32))), .val (.int (1 : Int32)), .unset] [(.long (own_nb q0))]))
              refine Good.back (fun _ k => XS.iloadN X57.here hx rfl (hb hby at_94) rfl k) ?_
              show Good p e below _ (T57.setTop (mkF m 95 #[.val (.long q0), .second, .val (.int p1), .val (.int tt), .val (.int (tt % (8 : Int32))), .val (.int (tt / (8 : Int32))), .val (.int (1 : Int32)), .unset] [(.int tt), (.long (own_nb q0))]))
              refine Good.back (fun _ k => XS.lushr X57.here hx rfl (hb hby at_95) rfl k) ?_
              show Good p e below _ (T57.setTop (mkF m 96 #[.val (.long q0), .second, .val (.int p1), .val (.int tt), .val (.int (tt % (8 : Int32))), .val (.int (tt / (8 : Int32))), .val (.int (1 : Int32)), .unset] [(.long (((own_nb q0).toUInt64 >>> (tt &&& 0x3f).toInt64.toUInt64).toInt64))]))
              refine Good.back (fun _ k => XS.lconst X57.here hx rfl (hb hby at_96) k) ?_
              show Good p e below _ (T57.setTop (mkF m 97 #[.val (.long q0), .second, .val (.int p1), .val (.int tt), .val (.int (tt % (8 : Int32))), .val (.int (tt / (8 : Int32))), .val (.int (1 : Int32)), .unset] [(.long (1 : Int64)), (.long (((own_nb q0).toUInt64 >>> (tt &&& 0x3f).toInt64.toUInt64).toInt64))]))
              refine Good.back (fun _ k => XS.land X57.here hx rfl (hb hby at_97) rfl k) ?_
              show Good p e below _ (T57.setTop (mkF m 98 #[.val (.long q0), .second, .val (.int p1), .val (.int tt), .val (.int (tt % (8 : Int32))), .val (.int (tt / (8 : Int32))), .val (.int (1 : Int32)), .unset] [(.long ((((own_nb q0).toUInt64 >>> (tt &&& 0x3f).toInt64.toUInt64).toInt64) &&& (1 : Int64)))]))
              refine Good.back (fun _ k => XS.lconst X57.here hx rfl (hb hby at_98) k) ?_
              show Good p e below _ (T57.setTop (mkF m 99 #[.val (.long q0), .second, .val (.int p1), .val (.int tt), .val (.int (tt % (8 : Int32))), .val (.int (tt / (8 : Int32))), .val (.int (1 : Int32)), .unset] [(.long (0 : Int64)), (.long ((((own_nb q0).toUInt64 >>> (tt &&& 0x3f).toInt64.toUInt64).toInt64) &&& (1 : Int64)))]))
              refine Good.back (fun _ k => XS.lcmp X57.here hx rfl (hb hby at_99) rfl k) ?_
              show Good p e below _ (T57.setTop (mkF m 100 #[.val (.long q0), .second, .val (.int p1), .val (.int tt), .val (.int (tt % (8 : Int32))), .val (.int (tt / (8 : Int32))), .val (.int (1 : Int32)), .unset] [(.int (lcmpW ((((own_nb q0).toUInt64 >>> (tt &&& 0x3f).toInt64.toUInt64).toInt64) &&& (1 : Int64)) (0 : Int64)))]))
              refine Good.back (fun _ k => XS.ifNo X57.here hx rfl (hb hby at_100) rfl ((if0 _ _).trans (feq (fun q => ((own_law q0 tt t0 t1).mpr (Or.inr (Or.inr (Or.inr (⟨hc69_54, hb80_56⟩))))) ((lw_eq _ _).mp q))).1) k) ?_
              show Good p e below _ (T57.setTop (mkF m 103 #[.val (.long q0), .second, .val (.int p1), .val (.int tt), .val (.int (tt % (8 : Int32))), .val (.int (tt / (8 : Int32))), .val (.int (1 : Int32)), .unset] []))
              refine Good.back (fun _ k => XS.iconst X57.here hx rfl (hb hby at_103) k) ?_
              show Good p e below _ (T57.setTop (mkF m 104 #[.val (.long q0), .second, .val (.int p1), .val (.int tt), .val (.int (tt % (8 : Int32))), .val (.int (tt / (8 : Int32))), .val (.int (1 : Int32)), .unset] [(.int (1 : Int32))]))
              refine Good.back (fun _ k => XS.goto X57.here hx rfl (pc0 := 104) (pc' := 108) rfl (hb hby at_104) (by decide) (by decide) k) ?_
              show Good p e below _ (T57.setTop (mkF m 108 #[.val (.long q0), .second, .val (.int p1), .val (.int tt), .val (.int (tt % (8 : Int32))), .val (.int (tt / (8 : Int32))), .val (.int (1 : Int32)), .unset] [(.int (1 : Int32))]))
              refine Good.back (fun _ k => XS.istore X57.here hx rfl (hb hby at_108) rfl (l' := #[.val (.long q0), .second, .val (.int p1), .val (.int tt), .val (.int (tt % (8 : Int32))), .val (.int (tt / (8 : Int32))), .val (.int (1 : Int32)), .val (.int (1 : Int32))]) rfl k) ?_
              show Good p e below _ (T57.setTop (mkF m 110 #[.val (.long q0), .second, .val (.int p1), .val (.int tt), .val (.int (tt % (8 : Int32))), .val (.int (tt / (8 : Int32))), .val (.int (1 : Int32)), .val (.int (1 : Int32))] []))
              refine Good.back (fun _ k => XS.iload X57.here hx rfl (hb hby at_110) rfl k) ?_
              show Good p e below _ (T57.setTop (mkF m 112 #[.val (.long q0), .second, .val (.int p1), .val (.int tt), .val (.int (tt % (8 : Int32))), .val (.int (tt / (8 : Int32))), .val (.int (1 : Int32)), .val (.int (1 : Int32))] [(.int (1 : Int32))]))
              refine Good.back (fun _ k => XS.iload X57.here hx rfl (hb hby at_112) rfl k) ?_
              show Good p e below _ (T57.setTop (mkF m 114 #[.val (.long q0), .second, .val (.int p1), .val (.int tt), .val (.int (tt % (8 : Int32))), .val (.int (tt / (8 : Int32))), .val (.int (1 : Int32)), .val (.int (1 : Int32))] [(.int (1 : Int32)), (.int (1 : Int32))]))
              refine Good.back (fun _ k => XS.icmpNo X57.here hx rfl (hb hby at_114) rfl (teq (by decide : ((1 : Int32) = (1 : Int32)))).2 k) ?_
              show Good p e below _ (T57.setTop (mkF m 117 #[.val (.long q0), .second, .val (.int p1), .val (.int tt), .val (.int (tt % (8 : Int32))), .val (.int (tt / (8 : Int32))), .val (.int (1 : Int32)), .val (.int (1 : Int32))] []))
              refine Good.back (fun _ k => XS.iconst X57.here hx rfl (hb hby at_117) k) ?_
              show Good p e below _ (T57.setTop (mkF m 118 #[.val (.long q0), .second, .val (.int p1), .val (.int tt), .val (.int (tt % (8 : Int32))), .val (.int (tt / (8 : Int32))), .val (.int (1 : Int32)), .val (.int (1 : Int32))] [(.int (1 : Int32))]))
              refine Good.back (fun _ k => XS.goto X57.here hx rfl (pc0 := 118) (pc' := 122) rfl (hb hby at_118) (by decide) (by decide) k) ?_
              show Good p e below _ (T57.setTop (mkF m 122 #[.val (.long q0), .second, .val (.int p1), .val (.int tt), .val (.int (tt % (8 : Int32))), .val (.int (tt / (8 : Int32))), .val (.int (1 : Int32)), .val (.int (1 : Int32))] [(.int (1 : Int32))]))
              obtain ⟨fs58, hr58, hrun58, hended58, hW58, hsame58⟩ := X57.leave (v := some (.int (1 : Int32))) (fun h => by rw [Bd.returns] at h; cases h)
              refine Good.done (retN X57 hx (t := .boolean) Bd.returns (by simp) (hb hby at_122) hr58) hrun58 hended58 ⟨_, _, rfl, ?_, ⟨_, rfl⟩, hW58, hsame58.mono (by decide) (by decide)⟩
              show Q0 Z q0 p1 h0 n0 _ T57.heap _
              rw [eh57]
              exact ⟨rfl, N57⟩
            · rw [if_neg hb80_56]
              show Good p e below _ (T55.setTop (mkF m 80 #[.val (.long q0), .second, .val (.int p1), .val (.int tt), .val (.int (tt % (8 : Int32))), .val (.int (tt / (8 : Int32))), .unset, .unset] [(.int (0 : Int32))]))
              refine Good.back (fun _ k => XS.ifYes X55.here hx rfl (pc0 := 80) (pc' := 87) rfl (hb hby at_80) rfl ((if0 _ _).trans (teq (by decide : ((0 : Int32) = (0 : Int32)))).1) (by decide) (by decide) k) ?_
              show Good p e below _ (T55.setTop (mkF m 87 #[.val (.long q0), .second, .val (.int p1), .val (.int tt), .val (.int (tt % (8 : Int32))), .val (.int (tt / (8 : Int32))), .unset, .unset] []))
              refine Good.back (fun _ k => XS.iconst X55.here hx rfl (hb hby at_87) k) ?_
              show Good p e below _ (T55.setTop (mkF m 88 #[.val (.long q0), .second, .val (.int p1), .val (.int tt), .val (.int (tt % (8 : Int32))), .val (.int (tt / (8 : Int32))), .unset, .unset] [(.int (0 : Int32))]))
              refine Good.back (fun _ k => XS.istore X55.here hx rfl (hb hby at_88) rfl (l' := #[.val (.long q0), .second, .val (.int p1), .val (.int tt), .val (.int (tt % (8 : Int32))), .val (.int (tt / (8 : Int32))), .val (.int (0 : Int32)), .unset]) rfl k) ?_
              show Good p e below _ (T55.setTop (mkF m 90 #[.val (.long q0), .second, .val (.int p1), .val (.int tt), .val (.int (tt % (8 : Int32))), .val (.int (tt / (8 : Int32))), .val (.int (0 : Int32)), .unset] []))
              refine Good.back (fun _ k => XS.lloadN X55.here hx rfl (hb hby at_90) rfl k) ?_
              show Good p e below _ (T55.setTop (mkF m 91 #[.val (.long q0), .second, .val (.int p1), .val (.int tt), .val (.int (tt % (8 : Int32))), .val (.int (tt / (8 : Int32))), .val (.int (0 : Int32)), .unset] [(.long q0)]))
              obtain ⟨_, _, ⟨T59, L59, k59, n59⟩, -, X59, ⟨Lc59, hQ59, l59, y59, z59⟩, st59⟩ := Jvm.LawKit.callS X55 hx (y := (⟨"com/example/trinode/trinode/troll/Board", "neighbours", "(J)J"⟩ : MethodName)) hown (mvT hZ (hw _ (List.mem_of_getElem? (i := 4) rfl))) (mvT hZ (hw _ (List.mem_of_getElem? (i := 5) rfl))) (mvT hZ (hw _ (List.mem_of_getElem? (i := 6) rfl))) (mvT hZ (hw _ (List.mem_of_getElem? (i := 7) rfl))) (by decide) (backOf (W := 0) (rm2 l Z a0 hw [] q0  h0 n0 Z0 ) hZ (hw _ (List.mem_of_getElem? (i := 7) rfl)) (hw _ (List.mem_of_getElem? (i := 6) rfl)) (by decide) (by decide)) (g := (mkF m 91 #[.val (.long q0), .second, .val (.int p1), .val (.int tt), .val (.int (tt % (8 : Int32))), .val (.int (tt / (8 : Int32))), .val (.int (0 : Int32)), .unset] [(.long q0)])) rfl (by rw [hml]; rfl) (argsL := [(.long q0)]) (rest := []) (lenOf own_pd37 rfl) rfl (by show 2 * 0 + _ ≤ _; exact Nat.le_of_eq rfl) (hb hby at_91) (fun _ _ => ⟨rfl, eh55, (by decide : 0 + 0 ≤ _), (by decide : 0 + 0 ≤ _)⟩)
              dsimp only [Pt.U, Pt.locs, Pt.cells, Pt.slots] at X59 l59 y59 z59 st59 hQ59
              subst l59 y59 z59
              obtain ⟨rfl, N59q, eh59⟩ := hQ59
              have N59 := Fr.app N55 N59q
              refine Good.back st59 ?_
              show Good p e below _ (T59.setTop (mkF m 94 #[.val (.long q0), .second, .val (.int p1), .val (.int tt), .val (.int (tt % (8 : Int32))), .val (.int (tt / (8 : Int32))), .val (.int (0 : Int32)), .unset] [(.long (own_nb q0))]))
              refine Good.back (fun _ k => XS.iloadN X59.here hx rfl (hb hby at_94) rfl k) ?_
              show Good p e below _ (T59.setTop (mkF m 95 #[.val (.long q0), .second, .val (.int p1), .val (.int tt), .val (.int (tt % (8 : Int32))), .val (.int (tt / (8 : Int32))), .val (.int (0 : Int32)), .unset] [(.int tt), (.long (own_nb q0))]))
              refine Good.back (fun _ k => XS.lushr X59.here hx rfl (hb hby at_95) rfl k) ?_
              show Good p e below _ (T59.setTop (mkF m 96 #[.val (.long q0), .second, .val (.int p1), .val (.int tt), .val (.int (tt % (8 : Int32))), .val (.int (tt / (8 : Int32))), .val (.int (0 : Int32)), .unset] [(.long (((own_nb q0).toUInt64 >>> (tt &&& 0x3f).toInt64.toUInt64).toInt64))]))
              refine Good.back (fun _ k => XS.lconst X59.here hx rfl (hb hby at_96) k) ?_
              show Good p e below _ (T59.setTop (mkF m 97 #[.val (.long q0), .second, .val (.int p1), .val (.int tt), .val (.int (tt % (8 : Int32))), .val (.int (tt / (8 : Int32))), .val (.int (0 : Int32)), .unset] [(.long (1 : Int64)), (.long (((own_nb q0).toUInt64 >>> (tt &&& 0x3f).toInt64.toUInt64).toInt64))]))
              refine Good.back (fun _ k => XS.land X59.here hx rfl (hb hby at_97) rfl k) ?_
              show Good p e below _ (T59.setTop (mkF m 98 #[.val (.long q0), .second, .val (.int p1), .val (.int tt), .val (.int (tt % (8 : Int32))), .val (.int (tt / (8 : Int32))), .val (.int (0 : Int32)), .unset] [(.long ((((own_nb q0).toUInt64 >>> (tt &&& 0x3f).toInt64.toUInt64).toInt64) &&& (1 : Int64)))]))
              refine Good.back (fun _ k => XS.lconst X59.here hx rfl (hb hby at_98) k) ?_
              show Good p e below _ (T59.setTop (mkF m 99 #[.val (.long q0), .second, .val (.int p1), .val (.int tt), .val (.int (tt % (8 : Int32))), .val (.int (tt / (8 : Int32))), .val (.int (0 : Int32)), .unset] [(.long (0 : Int64)), (.long ((((own_nb q0).toUInt64 >>> (tt &&& 0x3f).toInt64.toUInt64).toInt64) &&& (1 : Int64)))]))
              refine Good.back (fun _ k => XS.lcmp X59.here hx rfl (hb hby at_99) rfl k) ?_
              show Good p e below _ (T59.setTop (mkF m 100 #[.val (.long q0), .second, .val (.int p1), .val (.int tt), .val (.int (tt % (8 : Int32))), .val (.int (tt / (8 : Int32))), .val (.int (0 : Int32)), .unset] [(.int (lcmpW ((((own_nb q0).toUInt64 >>> (tt &&& 0x3f).toInt64.toUInt64).toInt64) &&& (1 : Int64)) (0 : Int64)))]))
              have hno60 : ¬ own_has (own_nb q0) tt := fun y => by
                rcases (own_law q0 tt t0 t1).mp y with x | x | x | x
                · exact hb29_3 x.2
                · exact hc36_6 x.1
                · exact hc51_38 x.1
                · exact hb80_56 x.2
              refine Good.back (fun _ k => XS.ifYes X59.here hx rfl (pc0 := 100) (pc' := 107) rfl (hb hby at_100) rfl ((if0 _ _).trans (teq ((lw_eq _ _).mpr (Classical.byContradiction fun y => hno60 y) : (lcmpW ((((own_nb q0).toUInt64 >>> (tt &&& 0x3f).toInt64.toUInt64).toInt64) &&& (1 : Int64)) (0 : Int64)) = (0 : Int32))).1) (by decide) (by decide) k) ?_
              show Good p e below _ (T59.setTop (mkF m 107 #[.val (.long q0), .second, .val (.int p1), .val (.int tt), .val (.int (tt % (8 : Int32))), .val (.int (tt / (8 : Int32))), .val (.int (0 : Int32)), .unset] []))
              refine Good.back (fun _ k => XS.iconst X59.here hx rfl (hb hby at_107) k) ?_
              show Good p e below _ (T59.setTop (mkF m 108 #[.val (.long q0), .second, .val (.int p1), .val (.int tt), .val (.int (tt % (8 : Int32))), .val (.int (tt / (8 : Int32))), .val (.int (0 : Int32)), .unset] [(.int (0 : Int32))]))
              refine Good.back (fun _ k => XS.istore X59.here hx rfl (hb hby at_108) rfl (l' := #[.val (.long q0), .second, .val (.int p1), .val (.int tt), .val (.int (tt % (8 : Int32))), .val (.int (tt / (8 : Int32))), .val (.int (0 : Int32)), .val (.int (0 : Int32))]) rfl k) ?_
              show Good p e below _ (T59.setTop (mkF m 110 #[.val (.long q0), .second, .val (.int p1), .val (.int tt), .val (.int (tt % (8 : Int32))), .val (.int (tt / (8 : Int32))), .val (.int (0 : Int32)), .val (.int (0 : Int32))] []))
              refine Good.back (fun _ k => XS.iload X59.here hx rfl (hb hby at_110) rfl k) ?_
              show Good p e below _ (T59.setTop (mkF m 112 #[.val (.long q0), .second, .val (.int p1), .val (.int tt), .val (.int (tt % (8 : Int32))), .val (.int (tt / (8 : Int32))), .val (.int (0 : Int32)), .val (.int (0 : Int32))] [(.int (0 : Int32))]))
              refine Good.back (fun _ k => XS.iload X59.here hx rfl (hb hby at_112) rfl k) ?_
              show Good p e below _ (T59.setTop (mkF m 114 #[.val (.long q0), .second, .val (.int p1), .val (.int tt), .val (.int (tt % (8 : Int32))), .val (.int (tt / (8 : Int32))), .val (.int (0 : Int32)), .val (.int (0 : Int32))] [(.int (0 : Int32)), (.int (0 : Int32))]))
              refine Good.back (fun _ k => XS.icmpNo X59.here hx rfl (hb hby at_114) rfl (teq (by decide : ((0 : Int32) = (0 : Int32)))).2 k) ?_
              show Good p e below _ (T59.setTop (mkF m 117 #[.val (.long q0), .second, .val (.int p1), .val (.int tt), .val (.int (tt % (8 : Int32))), .val (.int (tt / (8 : Int32))), .val (.int (0 : Int32)), .val (.int (0 : Int32))] []))
              refine Good.back (fun _ k => XS.iconst X59.here hx rfl (hb hby at_117) k) ?_
              show Good p e below _ (T59.setTop (mkF m 118 #[.val (.long q0), .second, .val (.int p1), .val (.int tt), .val (.int (tt % (8 : Int32))), .val (.int (tt / (8 : Int32))), .val (.int (0 : Int32)), .val (.int (0 : Int32))] [(.int (1 : Int32))]))
              refine Good.back (fun _ k => XS.goto X59.here hx rfl (pc0 := 118) (pc' := 122) rfl (hb hby at_118) (by decide) (by decide) k) ?_
              show Good p e below _ (T59.setTop (mkF m 122 #[.val (.long q0), .second, .val (.int p1), .val (.int tt), .val (.int (tt % (8 : Int32))), .val (.int (tt / (8 : Int32))), .val (.int (0 : Int32)), .val (.int (0 : Int32))] [(.int (1 : Int32))]))
              obtain ⟨fs61, hr61, hrun61, hended61, hW61, hsame61⟩ := X59.leave (v := some (.int (1 : Int32))) (fun h => by rw [Bd.returns] at h; cases h)
              refine Good.done (retN X59 hx (t := .boolean) Bd.returns (by simp) (hb hby at_122) hr61) hrun61 hended61 ⟨_, _, rfl, ?_, ⟨_, rfl⟩, hW61, hsame61.mono (by decide) (by decide)⟩
              show Q0 Z q0 p1 h0 n0 _ T59.heap _
              rw [eh59]
              exact ⟨rfl, N59⟩
          · refine Good.back (fun _ k => XS.icmpYes X2.here hx rfl (pc0 := 69) (pc' := 87) rfl (hb hby at_69) rfl (flt hc69_54).2.1 (by decide) (by decide) k) ?_
            show Good p e below _ (T2.setTop (mkF m 87 #[.val (.long q0), .second, .val (.int p1), .val (.int tt), .val (.int (tt % (8 : Int32))), .val (.int (tt / (8 : Int32))), .unset, .unset] []))
            refine Good.back (fun _ k => XS.iconst X2.here hx rfl (hb hby at_87) k) ?_
            show Good p e below _ (T2.setTop (mkF m 88 #[.val (.long q0), .second, .val (.int p1), .val (.int tt), .val (.int (tt % (8 : Int32))), .val (.int (tt / (8 : Int32))), .unset, .unset] [(.int (0 : Int32))]))
            refine Good.back (fun _ k => XS.istore X2.here hx rfl (hb hby at_88) rfl (l' := #[.val (.long q0), .second, .val (.int p1), .val (.int tt), .val (.int (tt % (8 : Int32))), .val (.int (tt / (8 : Int32))), .val (.int (0 : Int32)), .unset]) rfl k) ?_
            show Good p e below _ (T2.setTop (mkF m 90 #[.val (.long q0), .second, .val (.int p1), .val (.int tt), .val (.int (tt % (8 : Int32))), .val (.int (tt / (8 : Int32))), .val (.int (0 : Int32)), .unset] []))
            refine Good.back (fun _ k => XS.lloadN X2.here hx rfl (hb hby at_90) rfl k) ?_
            show Good p e below _ (T2.setTop (mkF m 91 #[.val (.long q0), .second, .val (.int p1), .val (.int tt), .val (.int (tt % (8 : Int32))), .val (.int (tt / (8 : Int32))), .val (.int (0 : Int32)), .unset] [(.long q0)]))
            obtain ⟨_, _, ⟨T62, L62, k62, n62⟩, -, X62, ⟨Lc62, hQ62, l62, y62, z62⟩, st62⟩ := Jvm.LawKit.callS X2 hx (y := (⟨"com/example/trinode/trinode/troll/Board", "neighbours", "(J)J"⟩ : MethodName)) hown (mvT hZ (hw _ (List.mem_of_getElem? (i := 4) rfl))) (mvT hZ (hw _ (List.mem_of_getElem? (i := 5) rfl))) (mvT hZ (hw _ (List.mem_of_getElem? (i := 6) rfl))) (mvT hZ (hw _ (List.mem_of_getElem? (i := 7) rfl))) (by decide) (backOf (W := 0) (rm2 l Z a0 hw [] q0  h0 n0 Z0 ) hZ (hw _ (List.mem_of_getElem? (i := 7) rfl)) (hw _ (List.mem_of_getElem? (i := 6) rfl)) (by decide) (by decide)) (g := (mkF m 91 #[.val (.long q0), .second, .val (.int p1), .val (.int tt), .val (.int (tt % (8 : Int32))), .val (.int (tt / (8 : Int32))), .val (.int (0 : Int32)), .unset] [(.long q0)])) rfl (by rw [hml]; rfl) (argsL := [(.long q0)]) (rest := []) (lenOf own_pd37 rfl) rfl (by show 2 * 0 + _ ≤ _; exact Nat.le_of_eq rfl) (hb hby at_91) (fun _ _ => ⟨rfl, eh2, (by decide : 0 + 0 ≤ _), (by decide : 0 + 0 ≤ _)⟩)
            dsimp only [Pt.U, Pt.locs, Pt.cells, Pt.slots] at X62 l62 y62 z62 st62 hQ62
            subst l62 y62 z62
            obtain ⟨rfl, N62q, eh62⟩ := hQ62
            have N62 := Fr.app N2 N62q
            refine Good.back st62 ?_
            show Good p e below _ (T62.setTop (mkF m 94 #[.val (.long q0), .second, .val (.int p1), .val (.int tt), .val (.int (tt % (8 : Int32))), .val (.int (tt / (8 : Int32))), .val (.int (0 : Int32)), .unset] [(.long (own_nb q0))]))
            refine Good.back (fun _ k => XS.iloadN X62.here hx rfl (hb hby at_94) rfl k) ?_
            show Good p e below _ (T62.setTop (mkF m 95 #[.val (.long q0), .second, .val (.int p1), .val (.int tt), .val (.int (tt % (8 : Int32))), .val (.int (tt / (8 : Int32))), .val (.int (0 : Int32)), .unset] [(.int tt), (.long (own_nb q0))]))
            refine Good.back (fun _ k => XS.lushr X62.here hx rfl (hb hby at_95) rfl k) ?_
            show Good p e below _ (T62.setTop (mkF m 96 #[.val (.long q0), .second, .val (.int p1), .val (.int tt), .val (.int (tt % (8 : Int32))), .val (.int (tt / (8 : Int32))), .val (.int (0 : Int32)), .unset] [(.long (((own_nb q0).toUInt64 >>> (tt &&& 0x3f).toInt64.toUInt64).toInt64))]))
            refine Good.back (fun _ k => XS.lconst X62.here hx rfl (hb hby at_96) k) ?_
            show Good p e below _ (T62.setTop (mkF m 97 #[.val (.long q0), .second, .val (.int p1), .val (.int tt), .val (.int (tt % (8 : Int32))), .val (.int (tt / (8 : Int32))), .val (.int (0 : Int32)), .unset] [(.long (1 : Int64)), (.long (((own_nb q0).toUInt64 >>> (tt &&& 0x3f).toInt64.toUInt64).toInt64))]))
            refine Good.back (fun _ k => XS.land X62.here hx rfl (hb hby at_97) rfl k) ?_
            show Good p e below _ (T62.setTop (mkF m 98 #[.val (.long q0), .second, .val (.int p1), .val (.int tt), .val (.int (tt % (8 : Int32))), .val (.int (tt / (8 : Int32))), .val (.int (0 : Int32)), .unset] [(.long ((((own_nb q0).toUInt64 >>> (tt &&& 0x3f).toInt64.toUInt64).toInt64) &&& (1 : Int64)))]))
            refine Good.back (fun _ k => XS.lconst X62.here hx rfl (hb hby at_98) k) ?_
            show Good p e below _ (T62.setTop (mkF m 99 #[.val (.long q0), .second, .val (.int p1), .val (.int tt), .val (.int (tt % (8 : Int32))), .val (.int (tt / (8 : Int32))), .val (.int (0 : Int32)), .unset] [(.long (0 : Int64)), (.long ((((own_nb q0).toUInt64 >>> (tt &&& 0x3f).toInt64.toUInt64).toInt64) &&& (1 : Int64)))]))
            refine Good.back (fun _ k => XS.lcmp X62.here hx rfl (hb hby at_99) rfl k) ?_
            show Good p e below _ (T62.setTop (mkF m 100 #[.val (.long q0), .second, .val (.int p1), .val (.int tt), .val (.int (tt % (8 : Int32))), .val (.int (tt / (8 : Int32))), .val (.int (0 : Int32)), .unset] [(.int (lcmpW ((((own_nb q0).toUInt64 >>> (tt &&& 0x3f).toInt64.toUInt64).toInt64) &&& (1 : Int64)) (0 : Int64)))]))
            have hno63 : ¬ own_has (own_nb q0) tt := fun y => by
              rcases (own_law q0 tt t0 t1).mp y with x | x | x | x
              · exact hb29_3 x.2
              · exact hc36_6 x.1
              · exact hc51_38 x.1
              · exact hc69_54 x.1
            refine Good.back (fun _ k => XS.ifYes X62.here hx rfl (pc0 := 100) (pc' := 107) rfl (hb hby at_100) rfl ((if0 _ _).trans (teq ((lw_eq _ _).mpr (Classical.byContradiction fun y => hno63 y) : (lcmpW ((((own_nb q0).toUInt64 >>> (tt &&& 0x3f).toInt64.toUInt64).toInt64) &&& (1 : Int64)) (0 : Int64)) = (0 : Int32))).1) (by decide) (by decide) k) ?_
            show Good p e below _ (T62.setTop (mkF m 107 #[.val (.long q0), .second, .val (.int p1), .val (.int tt), .val (.int (tt % (8 : Int32))), .val (.int (tt / (8 : Int32))), .val (.int (0 : Int32)), .unset] []))
            refine Good.back (fun _ k => XS.iconst X62.here hx rfl (hb hby at_107) k) ?_
            show Good p e below _ (T62.setTop (mkF m 108 #[.val (.long q0), .second, .val (.int p1), .val (.int tt), .val (.int (tt % (8 : Int32))), .val (.int (tt / (8 : Int32))), .val (.int (0 : Int32)), .unset] [(.int (0 : Int32))]))
            refine Good.back (fun _ k => XS.istore X62.here hx rfl (hb hby at_108) rfl (l' := #[.val (.long q0), .second, .val (.int p1), .val (.int tt), .val (.int (tt % (8 : Int32))), .val (.int (tt / (8 : Int32))), .val (.int (0 : Int32)), .val (.int (0 : Int32))]) rfl k) ?_
            show Good p e below _ (T62.setTop (mkF m 110 #[.val (.long q0), .second, .val (.int p1), .val (.int tt), .val (.int (tt % (8 : Int32))), .val (.int (tt / (8 : Int32))), .val (.int (0 : Int32)), .val (.int (0 : Int32))] []))
            refine Good.back (fun _ k => XS.iload X62.here hx rfl (hb hby at_110) rfl k) ?_
            show Good p e below _ (T62.setTop (mkF m 112 #[.val (.long q0), .second, .val (.int p1), .val (.int tt), .val (.int (tt % (8 : Int32))), .val (.int (tt / (8 : Int32))), .val (.int (0 : Int32)), .val (.int (0 : Int32))] [(.int (0 : Int32))]))
            refine Good.back (fun _ k => XS.iload X62.here hx rfl (hb hby at_112) rfl k) ?_
            show Good p e below _ (T62.setTop (mkF m 114 #[.val (.long q0), .second, .val (.int p1), .val (.int tt), .val (.int (tt % (8 : Int32))), .val (.int (tt / (8 : Int32))), .val (.int (0 : Int32)), .val (.int (0 : Int32))] [(.int (0 : Int32)), (.int (0 : Int32))]))
            refine Good.back (fun _ k => XS.icmpNo X62.here hx rfl (hb hby at_114) rfl (teq (by decide : ((0 : Int32) = (0 : Int32)))).2 k) ?_
            show Good p e below _ (T62.setTop (mkF m 117 #[.val (.long q0), .second, .val (.int p1), .val (.int tt), .val (.int (tt % (8 : Int32))), .val (.int (tt / (8 : Int32))), .val (.int (0 : Int32)), .val (.int (0 : Int32))] []))
            refine Good.back (fun _ k => XS.iconst X62.here hx rfl (hb hby at_117) k) ?_
            show Good p e below _ (T62.setTop (mkF m 118 #[.val (.long q0), .second, .val (.int p1), .val (.int tt), .val (.int (tt % (8 : Int32))), .val (.int (tt / (8 : Int32))), .val (.int (0 : Int32)), .val (.int (0 : Int32))] [(.int (1 : Int32))]))
            refine Good.back (fun _ k => XS.goto X62.here hx rfl (pc0 := 118) (pc' := 122) rfl (hb hby at_118) (by decide) (by decide) k) ?_
            show Good p e below _ (T62.setTop (mkF m 122 #[.val (.long q0), .second, .val (.int p1), .val (.int tt), .val (.int (tt % (8 : Int32))), .val (.int (tt / (8 : Int32))), .val (.int (0 : Int32)), .val (.int (0 : Int32))] [(.int (1 : Int32))]))
            obtain ⟨fs64, hr64, hrun64, hended64, hW64, hsame64⟩ := X62.leave (v := some (.int (1 : Int32))) (fun h => by rw [Bd.returns] at h; cases h)
            refine Good.done (retN X62 hx (t := .boolean) Bd.returns (by simp) (hb hby at_122) hr64) hrun64 hended64 ⟨_, _, rfl, ?_, ⟨_, rfl⟩, hW64, hsame64.mono (by decide) (by decide)⟩
            show Q0 Z q0 p1 h0 n0 _ T62.heap _
            rw [eh62]
            exact ⟨rfl, N62⟩
  · refine Good.back (fun _ k => XS.ifYes X0.here hx rfl (pc0 := 19) (pc' := 32) rfl (hb hby at_19) rfl ((if0 _ _).trans (flt hc19_1).2.2.2) (by decide) (by decide) k) ?_
    show Good p e below _ (s₁.setTop (mkF m 32 #[.val (.long q0), .second, .val (.int p1), .val (.int tt), .val (.int (tt % (8 : Int32))), .val (.int (tt / (8 : Int32))), .unset, .unset] []))
    refine Good.back (fun _ k => XS.iload X0.here hx rfl (hb hby at_32) rfl k) ?_
    show Good p e below _ (s₁.setTop (mkF m 34 #[.val (.long q0), .second, .val (.int p1), .val (.int tt), .val (.int (tt % (8 : Int32))), .val (.int (tt / (8 : Int32))), .unset, .unset] [(.int (tt % (8 : Int32)))]))
    refine Good.back (fun _ k => XS.bipush X0.here hx rfl (hb hby at_34) k) ?_
    show Good p e below _ (s₁.setTop (mkF m 36 #[.val (.long q0), .second, .val (.int p1), .val (.int tt), .val (.int (tt % (8 : Int32))), .val (.int (tt / (8 : Int32))), .unset, .unset] [(.int (7 : Int32)), (.int (tt % (8 : Int32)))]))
    by_cases hc36_65 : (tt % (8 : Int32)) < (7 : Int32)
    · refine Good.back (fun _ k => XS.icmpNo X0.here hx rfl (hb hby at_36) rfl (tlt hc36_65).2.1 k) ?_
      show Good p e below _ (s₁.setTop (mkF m 39 #[.val (.long q0), .second, .val (.int p1), .val (.int tt), .val (.int (tt % (8 : Int32))), .val (.int (tt / (8 : Int32))), .unset, .unset] []))
      refine Good.back (fun _ k => XS.lloadN X0.here hx rfl (hb hby at_39) rfl k) ?_
      show Good p e below _ (s₁.setTop (mkF m 40 #[.val (.long q0), .second, .val (.int p1), .val (.int tt), .val (.int (tt % (8 : Int32))), .val (.int (tt / (8 : Int32))), .unset, .unset] [(.long q0)]))
      refine Good.back (fun _ k => XS.iloadN X0.here hx rfl (hb hby at_40) rfl k) ?_
      show Good p e below _ (s₁.setTop (mkF m 41 #[.val (.long q0), .second, .val (.int p1), .val (.int tt), .val (.int (tt % (8 : Int32))), .val (.int (tt / (8 : Int32))), .unset, .unset] [(.int tt), (.long q0)]))
      refine Good.back (fun _ k => XS.iconst X0.here hx rfl (hb hby at_41) k) ?_
      show Good p e below _ (s₁.setTop (mkF m 42 #[.val (.long q0), .second, .val (.int p1), .val (.int tt), .val (.int (tt % (8 : Int32))), .val (.int (tt / (8 : Int32))), .unset, .unset] [(.int (1 : Int32)), (.int tt), (.long q0)]))
      refine Good.back (fun _ k => XS.iadd X0.here hx rfl (hb hby at_42) rfl k) ?_
      show Good p e below _ (s₁.setTop (mkF m 43 #[.val (.long q0), .second, .val (.int p1), .val (.int tt), .val (.int (tt % (8 : Int32))), .val (.int (tt / (8 : Int32))), .unset, .unset] [(.int (tt + (1 : Int32))), (.long q0)]))
      obtain ⟨_, _, ⟨T66, L66, k66, n66⟩, -, X66, ⟨Lc66, hQ66, l66, y66, z66⟩, st66⟩ := Jvm.LawKit.callS X0 hx (y := (⟨"com/example/trinode/trinode/troll/BoardNeighboursPinLaw", "has", "(JI)Z"⟩ : MethodName)) hown (mvT hZ (hw _ (List.mem_of_getElem? (i := 0) rfl))) (mvT hZ (hw _ (List.mem_of_getElem? (i := 1) rfl))) (mvT hZ (hw _ (List.mem_of_getElem? (i := 2) rfl))) (mvT hZ (hw _ (List.mem_of_getElem? (i := 3) rfl))) (by decide) (backOf (W := 0) (rm1 l Z a0 hw [] q0 (tt + (1 : Int32))  h0 n0 Z0 ) hZ (hw _ (List.mem_of_getElem? (i := 3) rfl)) (hw _ (List.mem_of_getElem? (i := 2) rfl)) (by decide) (by decide)) (g := (mkF m 43 #[.val (.long q0), .second, .val (.int p1), .val (.int tt), .val (.int (tt % (8 : Int32))), .val (.int (tt / (8 : Int32))), .unset, .unset] [(.int (tt + (1 : Int32))), (.long q0)])) rfl (by rw [hml]; rfl) (argsL := [(.long q0), (.int (tt + (1 : Int32)))]) (rest := []) (lenOf own_pd36 rfl) rfl (by show 2 * 0 + _ ≤ _; exact Nat.le_of_eq rfl) (hb hby at_43) (fun _ _ => ⟨rfl, e0, (by decide : 0 + 0 ≤ _), (by decide : 0 + 0 ≤ _)⟩)
      dsimp only [Pt.U, Pt.locs, Pt.cells, Pt.slots] at X66 l66 y66 z66 st66 hQ66
      subst l66 y66 z66
      obtain ⟨rfl, N66q, eh66⟩ := hQ66
      have N66 := Fr.app N0 N66q
      refine Good.back st66 ?_
      show Good p e below _ (T66.setTop (mkF m 46 #[.val (.long q0), .second, .val (.int p1), .val (.int tt), .val (.int (tt % (8 : Int32))), .val (.int (tt / (8 : Int32))), .unset, .unset] [(.int (if own_has q0 (tt + (1 : Int32)) then (1 : Int32) else (0 : Int32)))]))
      by_cases hb46_67 : own_has q0 (tt + (1 : Int32))
      · rw [if_pos hb46_67]
        show Good p e below _ (T66.setTop (mkF m 46 #[.val (.long q0), .second, .val (.int p1), .val (.int tt), .val (.int (tt % (8 : Int32))), .val (.int (tt / (8 : Int32))), .unset, .unset] [(.int (1 : Int32))]))
        refine Good.back (fun _ k => XS.ifYes X66.here hx rfl (pc0 := 46) (pc' := 83) rfl (hb hby at_46) rfl ((if0 _ _).trans (feq (by decide : ¬ ((1 : Int32) = (0 : Int32)))).2) (by decide) (by decide) k) ?_
        show Good p e below _ (T66.setTop (mkF m 83 #[.val (.long q0), .second, .val (.int p1), .val (.int tt), .val (.int (tt % (8 : Int32))), .val (.int (tt / (8 : Int32))), .unset, .unset] []))
        refine Good.back (fun _ k => XS.iconst X66.here hx rfl (hb hby at_83) k) ?_
        show Good p e below _ (T66.setTop (mkF m 84 #[.val (.long q0), .second, .val (.int p1), .val (.int tt), .val (.int (tt % (8 : Int32))), .val (.int (tt / (8 : Int32))), .unset, .unset] [(.int (1 : Int32))]))
        refine Good.back (fun _ k => XS.goto X66.here hx rfl (pc0 := 84) (pc' := 88) rfl (hb hby at_84) (by decide) (by decide) k) ?_
        show Good p e below _ (T66.setTop (mkF m 88 #[.val (.long q0), .second, .val (.int p1), .val (.int tt), .val (.int (tt % (8 : Int32))), .val (.int (tt / (8 : Int32))), .unset, .unset] [(.int (1 : Int32))]))
        refine Good.back (fun _ k => XS.istore X66.here hx rfl (hb hby at_88) rfl (l' := #[.val (.long q0), .second, .val (.int p1), .val (.int tt), .val (.int (tt % (8 : Int32))), .val (.int (tt / (8 : Int32))), .val (.int (1 : Int32)), .unset]) rfl k) ?_
        show Good p e below _ (T66.setTop (mkF m 90 #[.val (.long q0), .second, .val (.int p1), .val (.int tt), .val (.int (tt % (8 : Int32))), .val (.int (tt / (8 : Int32))), .val (.int (1 : Int32)), .unset] []))
        refine Good.back (fun _ k => XS.lloadN X66.here hx rfl (hb hby at_90) rfl k) ?_
        show Good p e below _ (T66.setTop (mkF m 91 #[.val (.long q0), .second, .val (.int p1), .val (.int tt), .val (.int (tt % (8 : Int32))), .val (.int (tt / (8 : Int32))), .val (.int (1 : Int32)), .unset] [(.long q0)]))
        obtain ⟨_, _, ⟨T68, L68, k68, n68⟩, -, X68, ⟨Lc68, hQ68, l68, y68, z68⟩, st68⟩ := Jvm.LawKit.callS X66 hx (y := (⟨"com/example/trinode/trinode/troll/Board", "neighbours", "(J)J"⟩ : MethodName)) hown (mvT hZ (hw _ (List.mem_of_getElem? (i := 4) rfl))) (mvT hZ (hw _ (List.mem_of_getElem? (i := 5) rfl))) (mvT hZ (hw _ (List.mem_of_getElem? (i := 6) rfl))) (mvT hZ (hw _ (List.mem_of_getElem? (i := 7) rfl))) (by decide) (backOf (W := 0) (rm2 l Z a0 hw [] q0  h0 n0 Z0 ) hZ (hw _ (List.mem_of_getElem? (i := 7) rfl)) (hw _ (List.mem_of_getElem? (i := 6) rfl)) (by decide) (by decide)) (g := (mkF m 91 #[.val (.long q0), .second, .val (.int p1), .val (.int tt), .val (.int (tt % (8 : Int32))), .val (.int (tt / (8 : Int32))), .val (.int (1 : Int32)), .unset] [(.long q0)])) rfl (by rw [hml]; rfl) (argsL := [(.long q0)]) (rest := []) (lenOf own_pd37 rfl) rfl (by show 2 * 0 + _ ≤ _; exact Nat.le_of_eq rfl) (hb hby at_91) (fun _ _ => ⟨rfl, eh66, (by decide : 0 + 0 ≤ _), (by decide : 0 + 0 ≤ _)⟩)
        dsimp only [Pt.U, Pt.locs, Pt.cells, Pt.slots] at X68 l68 y68 z68 st68 hQ68
        subst l68 y68 z68
        obtain ⟨rfl, N68q, eh68⟩ := hQ68
        have N68 := Fr.app N66 N68q
        refine Good.back st68 ?_
        show Good p e below _ (T68.setTop (mkF m 94 #[.val (.long q0), .second, .val (.int p1), .val (.int tt), .val (.int (tt % (8 : Int32))), .val (.int (tt / (8 : Int32))), .val (.int (1 : Int32)), .unset] [(.long (own_nb q0))]))
        refine Good.back (fun _ k => XS.iloadN X68.here hx rfl (hb hby at_94) rfl k) ?_
        show Good p e below _ (T68.setTop (mkF m 95 #[.val (.long q0), .second, .val (.int p1), .val (.int tt), .val (.int (tt % (8 : Int32))), .val (.int (tt / (8 : Int32))), .val (.int (1 : Int32)), .unset] [(.int tt), (.long (own_nb q0))]))
        refine Good.back (fun _ k => XS.lushr X68.here hx rfl (hb hby at_95) rfl k) ?_
        show Good p e below _ (T68.setTop (mkF m 96 #[.val (.long q0), .second, .val (.int p1), .val (.int tt), .val (.int (tt % (8 : Int32))), .val (.int (tt / (8 : Int32))), .val (.int (1 : Int32)), .unset] [(.long (((own_nb q0).toUInt64 >>> (tt &&& 0x3f).toInt64.toUInt64).toInt64))]))
        refine Good.back (fun _ k => XS.lconst X68.here hx rfl (hb hby at_96) k) ?_
        show Good p e below _ (T68.setTop (mkF m 97 #[.val (.long q0), .second, .val (.int p1), .val (.int tt), .val (.int (tt % (8 : Int32))), .val (.int (tt / (8 : Int32))), .val (.int (1 : Int32)), .unset] [(.long (1 : Int64)), (.long (((own_nb q0).toUInt64 >>> (tt &&& 0x3f).toInt64.toUInt64).toInt64))]))
        refine Good.back (fun _ k => XS.land X68.here hx rfl (hb hby at_97) rfl k) ?_
        show Good p e below _ (T68.setTop (mkF m 98 #[.val (.long q0), .second, .val (.int p1), .val (.int tt), .val (.int (tt % (8 : Int32))), .val (.int (tt / (8 : Int32))), .val (.int (1 : Int32)), .unset] [(.long ((((own_nb q0).toUInt64 >>> (tt &&& 0x3f).toInt64.toUInt64).toInt64) &&& (1 : Int64)))]))
        refine Good.back (fun _ k => XS.lconst X68.here hx rfl (hb hby at_98) k) ?_
        show Good p e below _ (T68.setTop (mkF m 99 #[.val (.long q0), .second, .val (.int p1), .val (.int tt), .val (.int (tt % (8 : Int32))), .val (.int (tt / (8 : Int32))), .val (.int (1 : Int32)), .unset] [(.long (0 : Int64)), (.long ((((own_nb q0).toUInt64 >>> (tt &&& 0x3f).toInt64.toUInt64).toInt64) &&& (1 : Int64)))]))
        refine Good.back (fun _ k => XS.lcmp X68.here hx rfl (hb hby at_99) rfl k) ?_
        show Good p e below _ (T68.setTop (mkF m 100 #[.val (.long q0), .second, .val (.int p1), .val (.int tt), .val (.int (tt % (8 : Int32))), .val (.int (tt / (8 : Int32))), .val (.int (1 : Int32)), .unset] [(.int (lcmpW ((((own_nb q0).toUInt64 >>> (tt &&& 0x3f).toInt64.toUInt64).toInt64) &&& (1 : Int64)) (0 : Int64)))]))
        refine Good.back (fun _ k => XS.ifNo X68.here hx rfl (hb hby at_100) rfl ((if0 _ _).trans (feq (fun q => ((own_law q0 tt t0 t1).mpr (Or.inr (Or.inl ⟨hc36_65, hb46_67⟩))) ((lw_eq _ _).mp q))).1) k) ?_
        show Good p e below _ (T68.setTop (mkF m 103 #[.val (.long q0), .second, .val (.int p1), .val (.int tt), .val (.int (tt % (8 : Int32))), .val (.int (tt / (8 : Int32))), .val (.int (1 : Int32)), .unset] []))
        refine Good.back (fun _ k => XS.iconst X68.here hx rfl (hb hby at_103) k) ?_
        show Good p e below _ (T68.setTop (mkF m 104 #[.val (.long q0), .second, .val (.int p1), .val (.int tt), .val (.int (tt % (8 : Int32))), .val (.int (tt / (8 : Int32))), .val (.int (1 : Int32)), .unset] [(.int (1 : Int32))]))
        refine Good.back (fun _ k => XS.goto X68.here hx rfl (pc0 := 104) (pc' := 108) rfl (hb hby at_104) (by decide) (by decide) k) ?_
        show Good p e below _ (T68.setTop (mkF m 108 #[.val (.long q0), .second, .val (.int p1), .val (.int tt), .val (.int (tt % (8 : Int32))), .val (.int (tt / (8 : Int32))), .val (.int (1 : Int32)), .unset] [(.int (1 : Int32))]))
        refine Good.back (fun _ k => XS.istore X68.here hx rfl (hb hby at_108) rfl (l' := #[.val (.long q0), .second, .val (.int p1), .val (.int tt), .val (.int (tt % (8 : Int32))), .val (.int (tt / (8 : Int32))), .val (.int (1 : Int32)), .val (.int (1 : Int32))]) rfl k) ?_
        show Good p e below _ (T68.setTop (mkF m 110 #[.val (.long q0), .second, .val (.int p1), .val (.int tt), .val (.int (tt % (8 : Int32))), .val (.int (tt / (8 : Int32))), .val (.int (1 : Int32)), .val (.int (1 : Int32))] []))
        refine Good.back (fun _ k => XS.iload X68.here hx rfl (hb hby at_110) rfl k) ?_
        show Good p e below _ (T68.setTop (mkF m 112 #[.val (.long q0), .second, .val (.int p1), .val (.int tt), .val (.int (tt % (8 : Int32))), .val (.int (tt / (8 : Int32))), .val (.int (1 : Int32)), .val (.int (1 : Int32))] [(.int (1 : Int32))]))
        refine Good.back (fun _ k => XS.iload X68.here hx rfl (hb hby at_112) rfl k) ?_
        show Good p e below _ (T68.setTop (mkF m 114 #[.val (.long q0), .second, .val (.int p1), .val (.int tt), .val (.int (tt % (8 : Int32))), .val (.int (tt / (8 : Int32))), .val (.int (1 : Int32)), .val (.int (1 : Int32))] [(.int (1 : Int32)), (.int (1 : Int32))]))
        refine Good.back (fun _ k => XS.icmpNo X68.here hx rfl (hb hby at_114) rfl (teq (by decide : ((1 : Int32) = (1 : Int32)))).2 k) ?_
        show Good p e below _ (T68.setTop (mkF m 117 #[.val (.long q0), .second, .val (.int p1), .val (.int tt), .val (.int (tt % (8 : Int32))), .val (.int (tt / (8 : Int32))), .val (.int (1 : Int32)), .val (.int (1 : Int32))] []))
        refine Good.back (fun _ k => XS.iconst X68.here hx rfl (hb hby at_117) k) ?_
        show Good p e below _ (T68.setTop (mkF m 118 #[.val (.long q0), .second, .val (.int p1), .val (.int tt), .val (.int (tt % (8 : Int32))), .val (.int (tt / (8 : Int32))), .val (.int (1 : Int32)), .val (.int (1 : Int32))] [(.int (1 : Int32))]))
        refine Good.back (fun _ k => XS.goto X68.here hx rfl (pc0 := 118) (pc' := 122) rfl (hb hby at_118) (by decide) (by decide) k) ?_
        show Good p e below _ (T68.setTop (mkF m 122 #[.val (.long q0), .second, .val (.int p1), .val (.int tt), .val (.int (tt % (8 : Int32))), .val (.int (tt / (8 : Int32))), .val (.int (1 : Int32)), .val (.int (1 : Int32))] [(.int (1 : Int32))]))
        obtain ⟨fs69, hr69, hrun69, hended69, hW69, hsame69⟩ := X68.leave (v := some (.int (1 : Int32))) (fun h => by rw [Bd.returns] at h; cases h)
        refine Good.done (retN X68 hx (t := .boolean) Bd.returns (by simp) (hb hby at_122) hr69) hrun69 hended69 ⟨_, _, rfl, ?_, ⟨_, rfl⟩, hW69, hsame69.mono (by decide) (by decide)⟩
        show Q0 Z q0 p1 h0 n0 _ T68.heap _
        rw [eh68]
        exact ⟨rfl, N68⟩
      · rw [if_neg hb46_67]
        show Good p e below _ (T66.setTop (mkF m 46 #[.val (.long q0), .second, .val (.int p1), .val (.int tt), .val (.int (tt % (8 : Int32))), .val (.int (tt / (8 : Int32))), .unset, .unset] [(.int (0 : Int32))]))
        refine Good.back (fun _ k => XS.ifNo X66.here hx rfl (hb hby at_46) rfl ((if0 _ _).trans (teq (by decide : ((0 : Int32) = (0 : Int32)))).2) k) ?_
        show Good p e below _ (T66.setTop (mkF m 49 #[.val (.long q0), .second, .val (.int p1), .val (.int tt), .val (.int (tt % (8 : Int32))), .val (.int (tt / (8 : Int32))), .unset, .unset] []))
        refine Good.back (fun _ k => XS.iload X66.here hx rfl (hb hby at_49) rfl k) ?_
        show Good p e below _ (T66.setTop (mkF m 51 #[.val (.long q0), .second, .val (.int p1), .val (.int tt), .val (.int (tt % (8 : Int32))), .val (.int (tt / (8 : Int32))), .unset, .unset] [(.int (tt / (8 : Int32)))]))
        by_cases hc51_70 : (0 : Int32) < (tt / (8 : Int32))
        · refine Good.back (fun _ k => XS.ifNo X66.here hx rfl (hb hby at_51) rfl ((if0 _ _).trans (tlt hc51_70).2.2.2) k) ?_
          show Good p e below _ (T66.setTop (mkF m 54 #[.val (.long q0), .second, .val (.int p1), .val (.int tt), .val (.int (tt % (8 : Int32))), .val (.int (tt / (8 : Int32))), .unset, .unset] []))
          refine Good.back (fun _ k => XS.lloadN X66.here hx rfl (hb hby at_54) rfl k) ?_
          show Good p e below _ (T66.setTop (mkF m 55 #[.val (.long q0), .second, .val (.int p1), .val (.int tt), .val (.int (tt % (8 : Int32))), .val (.int (tt / (8 : Int32))), .unset, .unset] [(.long q0)]))
          refine Good.back (fun _ k => XS.iloadN X66.here hx rfl (hb hby at_55) rfl k) ?_
          show Good p e below _ (T66.setTop (mkF m 56 #[.val (.long q0), .second, .val (.int p1), .val (.int tt), .val (.int (tt % (8 : Int32))), .val (.int (tt / (8 : Int32))), .unset, .unset] [(.int tt), (.long q0)]))
          refine Good.back (fun _ k => XS.bipush X66.here hx rfl (hb hby at_56) k) ?_
          show Good p e below _ (T66.setTop (mkF m 58 #[.val (.long q0), .second, .val (.int p1), .val (.int tt), .val (.int (tt % (8 : Int32))), .val (.int (tt / (8 : Int32))), .unset, .unset] [(.int (8 : Int32)), (.int tt), (.long q0)]))
          refine Good.back (fun _ k => XS.isub X66.here hx rfl (hb hby at_58) rfl k) ?_
          show Good p e below _ (T66.setTop (mkF m 59 #[.val (.long q0), .second, .val (.int p1), .val (.int tt), .val (.int (tt % (8 : Int32))), .val (.int (tt / (8 : Int32))), .unset, .unset] [(.int (tt - (8 : Int32))), (.long q0)]))
          obtain ⟨_, _, ⟨T71, L71, k71, n71⟩, -, X71, ⟨Lc71, hQ71, l71, y71, z71⟩, st71⟩ := Jvm.LawKit.callS X66 hx (y := (⟨"com/example/trinode/trinode/troll/BoardNeighboursPinLaw", "has", "(JI)Z"⟩ : MethodName)) hown (mvT hZ (hw _ (List.mem_of_getElem? (i := 0) rfl))) (mvT hZ (hw _ (List.mem_of_getElem? (i := 1) rfl))) (mvT hZ (hw _ (List.mem_of_getElem? (i := 2) rfl))) (mvT hZ (hw _ (List.mem_of_getElem? (i := 3) rfl))) (by decide) (backOf (W := 0) (rm1 l Z a0 hw [] q0 (tt - (8 : Int32))  h0 n0 Z0 ) hZ (hw _ (List.mem_of_getElem? (i := 3) rfl)) (hw _ (List.mem_of_getElem? (i := 2) rfl)) (by decide) (by decide)) (g := (mkF m 59 #[.val (.long q0), .second, .val (.int p1), .val (.int tt), .val (.int (tt % (8 : Int32))), .val (.int (tt / (8 : Int32))), .unset, .unset] [(.int (tt - (8 : Int32))), (.long q0)])) rfl (by rw [hml]; rfl) (argsL := [(.long q0), (.int (tt - (8 : Int32)))]) (rest := []) (lenOf own_pd36 rfl) rfl (by show 2 * 0 + _ ≤ _; exact Nat.le_of_eq rfl) (hb hby at_59) (fun _ _ => ⟨rfl, eh66, (by decide : 0 + 0 ≤ _), (by decide : 0 + 0 ≤ _)⟩)
          dsimp only [Pt.U, Pt.locs, Pt.cells, Pt.slots] at X71 l71 y71 z71 st71 hQ71
          subst l71 y71 z71
          obtain ⟨rfl, N71q, eh71⟩ := hQ71
          have N71 := Fr.app N66 N71q
          refine Good.back st71 ?_
          show Good p e below _ (T71.setTop (mkF m 62 #[.val (.long q0), .second, .val (.int p1), .val (.int tt), .val (.int (tt % (8 : Int32))), .val (.int (tt / (8 : Int32))), .unset, .unset] [(.int (if own_has q0 (tt - (8 : Int32)) then (1 : Int32) else (0 : Int32)))]))
          by_cases hb62_72 : own_has q0 (tt - (8 : Int32))
          · rw [if_pos hb62_72]
            show Good p e below _ (T71.setTop (mkF m 62 #[.val (.long q0), .second, .val (.int p1), .val (.int tt), .val (.int (tt % (8 : Int32))), .val (.int (tt / (8 : Int32))), .unset, .unset] [(.int (1 : Int32))]))
            refine Good.back (fun _ k => XS.ifYes X71.here hx rfl (pc0 := 62) (pc' := 83) rfl (hb hby at_62) rfl ((if0 _ _).trans (feq (by decide : ¬ ((1 : Int32) = (0 : Int32)))).2) (by decide) (by decide) k) ?_
            show Good p e below _ (T71.setTop (mkF m 83 #[.val (.long q0), .second, .val (.int p1), .val (.int tt), .val (.int (tt % (8 : Int32))), .val (.int (tt / (8 : Int32))), .unset, .unset] []))
            refine Good.back (fun _ k => XS.iconst X71.here hx rfl (hb hby at_83) k) ?_
            show Good p e below _ (T71.setTop (mkF m 84 #[.val (.long q0), .second, .val (.int p1), .val (.int tt), .val (.int (tt % (8 : Int32))), .val (.int (tt / (8 : Int32))), .unset, .unset] [(.int (1 : Int32))]))
            refine Good.back (fun _ k => XS.goto X71.here hx rfl (pc0 := 84) (pc' := 88) rfl (hb hby at_84) (by decide) (by decide) k) ?_
            show Good p e below _ (T71.setTop (mkF m 88 #[.val (.long q0), .second, .val (.int p1), .val (.int tt), .val (.int (tt % (8 : Int32))), .val (.int (tt / (8 : Int32))), .unset, .unset] [(.int (1 : Int32))]))
            refine Good.back (fun _ k => XS.istore X71.here hx rfl (hb hby at_88) rfl (l' := #[.val (.long q0), .second, .val (.int p1), .val (.int tt), .val (.int (tt % (8 : Int32))), .val (.int (tt / (8 : Int32))), .val (.int (1 : Int32)), .unset]) rfl k) ?_
            show Good p e below _ (T71.setTop (mkF m 90 #[.val (.long q0), .second, .val (.int p1), .val (.int tt), .val (.int (tt % (8 : Int32))), .val (.int (tt / (8 : Int32))), .val (.int (1 : Int32)), .unset] []))
            refine Good.back (fun _ k => XS.lloadN X71.here hx rfl (hb hby at_90) rfl k) ?_
            show Good p e below _ (T71.setTop (mkF m 91 #[.val (.long q0), .second, .val (.int p1), .val (.int tt), .val (.int (tt % (8 : Int32))), .val (.int (tt / (8 : Int32))), .val (.int (1 : Int32)), .unset] [(.long q0)]))
            obtain ⟨_, _, ⟨T73, L73, k73, n73⟩, -, X73, ⟨Lc73, hQ73, l73, y73, z73⟩, st73⟩ := Jvm.LawKit.callS X71 hx (y := (⟨"com/example/trinode/trinode/troll/Board", "neighbours", "(J)J"⟩ : MethodName)) hown (mvT hZ (hw _ (List.mem_of_getElem? (i := 4) rfl))) (mvT hZ (hw _ (List.mem_of_getElem? (i := 5) rfl))) (mvT hZ (hw _ (List.mem_of_getElem? (i := 6) rfl))) (mvT hZ (hw _ (List.mem_of_getElem? (i := 7) rfl))) (by decide) (backOf (W := 0) (rm2 l Z a0 hw [] q0  h0 n0 Z0 ) hZ (hw _ (List.mem_of_getElem? (i := 7) rfl)) (hw _ (List.mem_of_getElem? (i := 6) rfl)) (by decide) (by decide)) (g := (mkF m 91 #[.val (.long q0), .second, .val (.int p1), .val (.int tt), .val (.int (tt % (8 : Int32))), .val (.int (tt / (8 : Int32))), .val (.int (1 : Int32)), .unset] [(.long q0)])) rfl (by rw [hml]; rfl) (argsL := [(.long q0)]) (rest := []) (lenOf own_pd37 rfl) rfl (by show 2 * 0 + _ ≤ _; exact Nat.le_of_eq rfl) (hb hby at_91) (fun _ _ => ⟨rfl, eh71, (by decide : 0 + 0 ≤ _), (by decide : 0 + 0 ≤ _)⟩)
            dsimp only [Pt.U, Pt.locs, Pt.cells, Pt.slots] at X73 l73 y73 z73 st73 hQ73
            subst l73 y73 z73
            obtain ⟨rfl, N73q, eh73⟩ := hQ73
            have N73 := Fr.app N71 N73q
            refine Good.back st73 ?_
            show Good p e below _ (T73.setTop (mkF m 94 #[.val (.long q0), .second, .val (.int p1), .val (.int tt), .val (.int (tt % (8 : Int32))), .val (.int (tt / (8 : Int32))), .val (.int (1 : Int32)), .unset] [(.long (own_nb q0))]))
            refine Good.back (fun _ k => XS.iloadN X73.here hx rfl (hb hby at_94) rfl k) ?_
            show Good p e below _ (T73.setTop (mkF m 95 #[.val (.long q0), .second, .val (.int p1), .val (.int tt), .val (.int (tt % (8 : Int32))), .val (.int (tt / (8 : Int32))), .val (.int (1 : Int32)), .unset] [(.int tt), (.long (own_nb q0))]))
            refine Good.back (fun _ k => XS.lushr X73.here hx rfl (hb hby at_95) rfl k) ?_
            show Good p e below _ (T73.setTop (mkF m 96 #[.val (.long q0), .second, .val (.int p1), .val (.int tt), .val (.int (tt % (8 : Int32))), .val (.int (tt / (8 : Int32))), .val (.int (1 : Int32)), .unset] [(.long (((own_nb q0).toUInt64 >>> (tt &&& 0x3f).toInt64.toUInt64).toInt64))]))
            refine Good.back (fun _ k => XS.lconst X73.here hx rfl (hb hby at_96) k) ?_
            show Good p e below _ (T73.setTop (mkF m 97 #[.val (.long q0), .second, .val (.int p1), .val (.int tt), .val (.int (tt % (8 : Int32))), .val (.int (tt / (8 : Int32))), .val (.int (1 : Int32)), .unset] [(.long (1 : Int64)), (.long (((own_nb q0).toUInt64 >>> (tt &&& 0x3f).toInt64.toUInt64).toInt64))]))
            refine Good.back (fun _ k => XS.land X73.here hx rfl (hb hby at_97) rfl k) ?_
            show Good p e below _ (T73.setTop (mkF m 98 #[.val (.long q0), .second, .val (.int p1), .val (.int tt), .val (.int (tt % (8 : Int32))), .val (.int (tt / (8 : Int32))), .val (.int (1 : Int32)), .unset] [(.long ((((own_nb q0).toUInt64 >>> (tt &&& 0x3f).toInt64.toUInt64).toInt64) &&& (1 : Int64)))]))
            refine Good.back (fun _ k => XS.lconst X73.here hx rfl (hb hby at_98) k) ?_
            show Good p e below _ (T73.setTop (mkF m 99 #[.val (.long q0), .second, .val (.int p1), .val (.int tt), .val (.int (tt % (8 : Int32))), .val (.int (tt / (8 : Int32))), .val (.int (1 : Int32)), .unset] [(.long (0 : Int64)), (.long ((((own_nb q0).toUInt64 >>> (tt &&& 0x3f).toInt64.toUInt64).toInt64) &&& (1 : Int64)))]))
            refine Good.back (fun _ k => XS.lcmp X73.here hx rfl (hb hby at_99) rfl k) ?_
            show Good p e below _ (T73.setTop (mkF m 100 #[.val (.long q0), .second, .val (.int p1), .val (.int tt), .val (.int (tt % (8 : Int32))), .val (.int (tt / (8 : Int32))), .val (.int (1 : Int32)), .unset] [(.int (lcmpW ((((own_nb q0).toUInt64 >>> (tt &&& 0x3f).toInt64.toUInt64).toInt64) &&& (1 : Int64)) (0 : Int64)))]))
            refine Good.back (fun _ k => XS.ifNo X73.here hx rfl (hb hby at_100) rfl ((if0 _ _).trans (feq (fun q => ((own_law q0 tt t0 t1).mpr (Or.inr (Or.inr (Or.inl ⟨hc51_70, hb62_72⟩)))) ((lw_eq _ _).mp q))).1) k) ?_
            show Good p e below _ (T73.setTop (mkF m 103 #[.val (.long q0), .second, .val (.int p1), .val (.int tt), .val (.int (tt % (8 : Int32))), .val (.int (tt / (8 : Int32))), .val (.int (1 : Int32)), .unset] []))
            refine Good.back (fun _ k => XS.iconst X73.here hx rfl (hb hby at_103) k) ?_
            show Good p e below _ (T73.setTop (mkF m 104 #[.val (.long q0), .second, .val (.int p1), .val (.int tt), .val (.int (tt % (8 : Int32))), .val (.int (tt / (8 : Int32))), .val (.int (1 : Int32)), .unset] [(.int (1 : Int32))]))
            refine Good.back (fun _ k => XS.goto X73.here hx rfl (pc0 := 104) (pc' := 108) rfl (hb hby at_104) (by decide) (by decide) k) ?_
            show Good p e below _ (T73.setTop (mkF m 108 #[.val (.long q0), .second, .val (.int p1), .val (.int tt), .val (.int (tt % (8 : Int32))), .val (.int (tt / (8 : Int32))), .val (.int (1 : Int32)), .unset] [(.int (1 : Int32))]))
            refine Good.back (fun _ k => XS.istore X73.here hx rfl (hb hby at_108) rfl (l' := #[.val (.long q0), .second, .val (.int p1), .val (.int tt), .val (.int (tt % (8 : Int32))), .val (.int (tt / (8 : Int32))), .val (.int (1 : Int32)), .val (.int (1 : Int32))]) rfl k) ?_
            show Good p e below _ (T73.setTop (mkF m 110 #[.val (.long q0), .second, .val (.int p1), .val (.int tt), .val (.int (tt % (8 : Int32))), .val (.int (tt / (8 : Int32))), .val (.int (1 : Int32)), .val (.int (1 : Int32))] []))
            refine Good.back (fun _ k => XS.iload X73.here hx rfl (hb hby at_110) rfl k) ?_
            show Good p e below _ (T73.setTop (mkF m 112 #[.val (.long q0), .second, .val (.int p1), .val (.int tt), .val (.int (tt % (8 : Int32))), .val (.int (tt / (8 : Int32))), .val (.int (1 : Int32)), .val (.int (1 : Int32))] [(.int (1 : Int32))]))
            refine Good.back (fun _ k => XS.iload X73.here hx rfl (hb hby at_112) rfl k) ?_
            show Good p e below _ (T73.setTop (mkF m 114 #[.val (.long q0), .second, .val (.int p1), .val (.int tt), .val (.int (tt % (8 : Int32))), .val (.int (tt / (8 : Int32))), .val (.int (1 : Int32)), .val (.int (1 : Int32))] [(.int (1 : Int32)), (.int (1 : Int32))]))
            refine Good.back (fun _ k => XS.icmpNo X73.here hx rfl (hb hby at_114) rfl (teq (by decide : ((1 : Int32) = (1 : Int32)))).2 k) ?_
            show Good p e below _ (T73.setTop (mkF m 117 #[.val (.long q0), .second, .val (.int p1), .val (.int tt), .val (.int (tt % (8 : Int32))), .val (.int (tt / (8 : Int32))), .val (.int (1 : Int32)), .val (.int (1 : Int32))] []))
            refine Good.back (fun _ k => XS.iconst X73.here hx rfl (hb hby at_117) k) ?_
            show Good p e below _ (T73.setTop (mkF m 118 #[.val (.long q0), .second, .val (.int p1), .val (.int tt), .val (.int (tt % (8 : Int32))), .val (.int (tt / (8 : Int32))), .val (.int (1 : Int32)), .val (.int (1 : Int32))] [(.int (1 : Int32))]))
            refine Good.back (fun _ k => XS.goto X73.here hx rfl (pc0 := 118) (pc' := 122) rfl (hb hby at_118) (by decide) (by decide) k) ?_
            show Good p e below _ (T73.setTop (mkF m 122 #[.val (.long q0), .second, .val (.int p1), .val (.int tt), .val (.int (tt % (8 : Int32))), .val (.int (tt / (8 : Int32))), .val (.int (1 : Int32)), .val (.int (1 : Int32))] [(.int (1 : Int32))]))
            obtain ⟨fs74, hr74, hrun74, hended74, hW74, hsame74⟩ := X73.leave (v := some (.int (1 : Int32))) (fun h => by rw [Bd.returns] at h; cases h)
            refine Good.done (retN X73 hx (t := .boolean) Bd.returns (by simp) (hb hby at_122) hr74) hrun74 hended74 ⟨_, _, rfl, ?_, ⟨_, rfl⟩, hW74, hsame74.mono (by decide) (by decide)⟩
            show Q0 Z q0 p1 h0 n0 _ T73.heap _
            rw [eh73]
            exact ⟨rfl, N73⟩
          · rw [if_neg hb62_72]
            show Good p e below _ (T71.setTop (mkF m 62 #[.val (.long q0), .second, .val (.int p1), .val (.int tt), .val (.int (tt % (8 : Int32))), .val (.int (tt / (8 : Int32))), .unset, .unset] [(.int (0 : Int32))]))
            refine Good.back (fun _ k => XS.ifNo X71.here hx rfl (hb hby at_62) rfl ((if0 _ _).trans (teq (by decide : ((0 : Int32) = (0 : Int32)))).2) k) ?_
            show Good p e below _ (T71.setTop (mkF m 65 #[.val (.long q0), .second, .val (.int p1), .val (.int tt), .val (.int (tt % (8 : Int32))), .val (.int (tt / (8 : Int32))), .unset, .unset] []))
            refine Good.back (fun _ k => XS.iload X71.here hx rfl (hb hby at_65) rfl k) ?_
            show Good p e below _ (T71.setTop (mkF m 67 #[.val (.long q0), .second, .val (.int p1), .val (.int tt), .val (.int (tt % (8 : Int32))), .val (.int (tt / (8 : Int32))), .unset, .unset] [(.int (tt / (8 : Int32)))]))
            refine Good.back (fun _ k => XS.bipush X71.here hx rfl (hb hby at_67) k) ?_
            show Good p e below _ (T71.setTop (mkF m 69 #[.val (.long q0), .second, .val (.int p1), .val (.int tt), .val (.int (tt % (8 : Int32))), .val (.int (tt / (8 : Int32))), .unset, .unset] [(.int (7 : Int32)), (.int (tt / (8 : Int32)))]))
            by_cases hc69_75 : (tt / (8 : Int32)) < (7 : Int32)
            · refine Good.back (fun _ k => XS.icmpNo X71.here hx rfl (hb hby at_69) rfl (tlt hc69_75).2.1 k) ?_
              show Good p e below _ (T71.setTop (mkF m 72 #[.val (.long q0), .second, .val (.int p1), .val (.int tt), .val (.int (tt % (8 : Int32))), .val (.int (tt / (8 : Int32))), .unset, .unset] []))
              refine Good.back (fun _ k => XS.lloadN X71.here hx rfl (hb hby at_72) rfl k) ?_
              show Good p e below _ (T71.setTop (mkF m 73 #[.val (.long q0), .second, .val (.int p1), .val (.int tt), .val (.int (tt % (8 : Int32))), .val (.int (tt / (8 : Int32))), .unset, .unset] [(.long q0)]))
              refine Good.back (fun _ k => XS.iloadN X71.here hx rfl (hb hby at_73) rfl k) ?_
              show Good p e below _ (T71.setTop (mkF m 74 #[.val (.long q0), .second, .val (.int p1), .val (.int tt), .val (.int (tt % (8 : Int32))), .val (.int (tt / (8 : Int32))), .unset, .unset] [(.int tt), (.long q0)]))
              refine Good.back (fun _ k => XS.bipush X71.here hx rfl (hb hby at_74) k) ?_
              show Good p e below _ (T71.setTop (mkF m 76 #[.val (.long q0), .second, .val (.int p1), .val (.int tt), .val (.int (tt % (8 : Int32))), .val (.int (tt / (8 : Int32))), .unset, .unset] [(.int (8 : Int32)), (.int tt), (.long q0)]))
              refine Good.back (fun _ k => XS.iadd X71.here hx rfl (hb hby at_76) rfl k) ?_
              show Good p e below _ (T71.setTop (mkF m 77 #[.val (.long q0), .second, .val (.int p1), .val (.int tt), .val (.int (tt % (8 : Int32))), .val (.int (tt / (8 : Int32))), .unset, .unset] [(.int (tt + (8 : Int32))), (.long q0)]))
              obtain ⟨_, _, ⟨T76, L76, k76, n76⟩, -, X76, ⟨Lc76, hQ76, l76, y76, z76⟩, st76⟩ := Jvm.LawKit.callS X71 hx (y := (⟨"com/example/trinode/trinode/troll/BoardNeighboursPinLaw", "has", "(JI)Z"⟩ : MethodName)) hown (mvT hZ (hw _ (List.mem_of_getElem? (i := 0) rfl))) (mvT hZ (hw _ (List.mem_of_getElem? (i := 1) rfl))) (mvT hZ (hw _ (List.mem_of_getElem? (i := 2) rfl))) (mvT hZ (hw _ (List.mem_of_getElem? (i := 3) rfl))) (by decide) (backOf (W := 0) (rm1 l Z a0 hw [] q0 (tt + (8 : Int32))  h0 n0 Z0 ) hZ (hw _ (List.mem_of_getElem? (i := 3) rfl)) (hw _ (List.mem_of_getElem? (i := 2) rfl)) (by decide) (by decide)) (g := (mkF m 77 #[.val (.long q0), .second, .val (.int p1), .val (.int tt), .val (.int (tt % (8 : Int32))), .val (.int (tt / (8 : Int32))), .unset, .unset] [(.int (tt + (8 : Int32))), (.long q0)])) rfl (by rw [hml]; rfl) (argsL := [(.long q0), (.int (tt + (8 : Int32)))]) (rest := []) (lenOf own_pd36 rfl) rfl (by show 2 * 0 + _ ≤ _; exact Nat.le_of_eq rfl) (hb hby at_77) (fun _ _ => ⟨rfl, eh71, (by decide : 0 + 0 ≤ _), (by decide : 0 + 0 ≤ _)⟩)
              dsimp only [Pt.U, Pt.locs, Pt.cells, Pt.slots] at X76 l76 y76 z76 st76 hQ76
              subst l76 y76 z76
              obtain ⟨rfl, N76q, eh76⟩ := hQ76
              have N76 := Fr.app N71 N76q
              refine Good.back st76 ?_
              show Good p e below _ (T76.setTop (mkF m 80 #[.val (.long q0), .second, .val (.int p1), .val (.int tt), .val (.int (tt % (8 : Int32))), .val (.int (tt / (8 : Int32))), .unset, .unset] [(.int (if own_has q0 (tt + (8 : Int32)) then (1 : Int32) else (0 : Int32)))]))
              by_cases hb80_77 : own_has q0 (tt + (8 : Int32))
              · rw [if_pos hb80_77]
                show Good p e below _ (T76.setTop (mkF m 80 #[.val (.long q0), .second, .val (.int p1), .val (.int tt), .val (.int (tt % (8 : Int32))), .val (.int (tt / (8 : Int32))), .unset, .unset] [(.int (1 : Int32))]))
                refine Good.back (fun _ k => XS.ifNo X76.here hx rfl (hb hby at_80) rfl ((if0 _ _).trans (feq (by decide : ¬ ((1 : Int32) = (0 : Int32)))).1) k) ?_
                show Good p e below _ (T76.setTop (mkF m 83 #[.val (.long q0), .second, .val (.int p1), .val (.int tt), .val (.int (tt % (8 : Int32))), .val (.int (tt / (8 : Int32))), .unset, .unset] []))
                refine Good.back (fun _ k => XS.iconst X76.here hx rfl (hb hby at_83) k) ?_
                show Good p e below _ (T76.setTop (mkF m 84 #[.val (.long q0), .second, .val (.int p1), .val (.int tt), .val (.int (tt % (8 : Int32))), .val (.int (tt / (8 : Int32))), .unset, .unset] [(.int (1 : Int32))]))
                refine Good.back (fun _ k => XS.goto X76.here hx rfl (pc0 := 84) (pc' := 88) rfl (hb hby at_84) (by decide) (by decide) k) ?_
                show Good p e below _ (T76.setTop (mkF m 88 #[.val (.long q0), .second, .val (.int p1), .val (.int tt), .val (.int (tt % (8 : Int32))), .val (.int (tt / (8 : Int32))), .unset, .unset] [(.int (1 : Int32))]))
                refine Good.back (fun _ k => XS.istore X76.here hx rfl (hb hby at_88) rfl (l' := #[.val (.long q0), .second, .val (.int p1), .val (.int tt), .val (.int (tt % (8 : Int32))), .val (.int (tt / (8 : Int32))), .val (.int (1 : Int32)), .unset]) rfl k) ?_
                show Good p e below _ (T76.setTop (mkF m 90 #[.val (.long q0), .second, .val (.int p1), .val (.int tt), .val (.int (tt % (8 : Int32))), .val (.int (tt / (8 : Int32))), .val (.int (1 : Int32)), .unset] []))
                refine Good.back (fun _ k => XS.lloadN X76.here hx rfl (hb hby at_90) rfl k) ?_
                show Good p e below _ (T76.setTop (mkF m 91 #[.val (.long q0), .second, .val (.int p1), .val (.int tt), .val (.int (tt % (8 : Int32))), .val (.int (tt / (8 : Int32))), .val (.int (1 : Int32)), .unset] [(.long q0)]))
                obtain ⟨_, _, ⟨T78, L78, k78, n78⟩, -, X78, ⟨Lc78, hQ78, l78, y78, z78⟩, st78⟩ := Jvm.LawKit.callS X76 hx (y := (⟨"com/example/trinode/trinode/troll/Board", "neighbours", "(J)J"⟩ : MethodName)) hown (mvT hZ (hw _ (List.mem_of_getElem? (i := 4) rfl))) (mvT hZ (hw _ (List.mem_of_getElem? (i := 5) rfl))) (mvT hZ (hw _ (List.mem_of_getElem? (i := 6) rfl))) (mvT hZ (hw _ (List.mem_of_getElem? (i := 7) rfl))) (by decide) (backOf (W := 0) (rm2 l Z a0 hw [] q0  h0 n0 Z0 ) hZ (hw _ (List.mem_of_getElem? (i := 7) rfl)) (hw _ (List.mem_of_getElem? (i := 6) rfl)) (by decide) (by decide)) (g := (mkF m 91 #[.val (.long q0), .second, .val (.int p1), .val (.int tt), .val (.int (tt % (8 : Int32))), .val (.int (tt / (8 : Int32))), .val (.int (1 : Int32)), .unset] [(.long q0)])) rfl (by rw [hml]; rfl) (argsL := [(.long q0)]) (rest := []) (lenOf own_pd37 rfl) rfl (by show 2 * 0 + _ ≤ _; exact Nat.le_of_eq rfl) (hb hby at_91) (fun _ _ => ⟨rfl, eh76, (by decide : 0 + 0 ≤ _), (by decide : 0 + 0 ≤ _)⟩)
                dsimp only [Pt.U, Pt.locs, Pt.cells, Pt.slots] at X78 l78 y78 z78 st78 hQ78
                subst l78 y78 z78
                obtain ⟨rfl, N78q, eh78⟩ := hQ78
                have N78 := Fr.app N76 N78q
                refine Good.back st78 ?_
                show Good p e below _ (T78.setTop (mkF m 94 #[.val (.long q0), .second, .val (.int p1), .val (.int tt), .val (.int (tt % (8 : Int32))), .val (.int (tt / (8 : Int32))), .val (.int (1 : Int32)), .unset] [(.long (own_nb q0))]))
                refine Good.back (fun _ k => XS.iloadN X78.here hx rfl (hb hby at_94) rfl k) ?_
                show Good p e below _ (T78.setTop (mkF m 95 #[.val (.long q0), .second, .val (.int p1), .val (.int tt), .val (.int (tt % (8 : Int32))), .val (.int (tt / (8 : Int32))), .val (.int (1 : Int32)), .unset] [(.int tt), (.long (own_nb q0))]))
                refine Good.back (fun _ k => XS.lushr X78.here hx rfl (hb hby at_95) rfl k) ?_
                show Good p e below _ (T78.setTop (mkF m 96 #[.val (.long q0), .second, .val (.int p1), .val (.int tt), .val (.int (tt % (8 : Int32))), .val (.int (tt / (8 : Int32))), .val (.int (1 : Int32)), .unset] [(.long (((own_nb q0).toUInt64 >>> (tt &&& 0x3f).toInt64.toUInt64).toInt64))]))
                refine Good.back (fun _ k => XS.lconst X78.here hx rfl (hb hby at_96) k) ?_
                show Good p e below _ (T78.setTop (mkF m 97 #[.val (.long q0), .second, .val (.int p1), .val (.int tt), .val (.int (tt % (8 : Int32))), .val (.int (tt / (8 : Int32))), .val (.int (1 : Int32)), .unset] [(.long (1 : Int64)), (.long (((own_nb q0).toUInt64 >>> (tt &&& 0x3f).toInt64.toUInt64).toInt64))]))
                refine Good.back (fun _ k => XS.land X78.here hx rfl (hb hby at_97) rfl k) ?_
                show Good p e below _ (T78.setTop (mkF m 98 #[.val (.long q0), .second, .val (.int p1), .val (.int tt), .val (.int (tt % (8 : Int32))), .val (.int (tt / (8 : Int32))), .val (.int (1 : Int32)), .unset] [(.long ((((own_nb q0).toUInt64 >>> (tt &&& 0x3f).toInt64.toUInt64).toInt64) &&& (1 : Int64)))]))
                refine Good.back (fun _ k => XS.lconst X78.here hx rfl (hb hby at_98) k) ?_
                show Good p e below _ (T78.setTop (mkF m 99 #[.val (.long q0), .second, .val (.int p1), .val (.int tt), .val (.int (tt % (8 : Int32))), .val (.int (tt / (8 : Int32))), .val (.int (1 : Int32)), .unset] [(.long (0 : Int64)), (.long ((((own_nb q0).toUInt64 >>> (tt &&& 0x3f).toInt64.toUInt64).toInt64) &&& (1 : Int64)))]))
                refine Good.back (fun _ k => XS.lcmp X78.here hx rfl (hb hby at_99) rfl k) ?_
                show Good p e below _ (T78.setTop (mkF m 100 #[.val (.long q0), .second, .val (.int p1), .val (.int tt), .val (.int (tt % (8 : Int32))), .val (.int (tt / (8 : Int32))), .val (.int (1 : Int32)), .unset] [(.int (lcmpW ((((own_nb q0).toUInt64 >>> (tt &&& 0x3f).toInt64.toUInt64).toInt64) &&& (1 : Int64)) (0 : Int64)))]))
                refine Good.back (fun _ k => XS.ifNo X78.here hx rfl (hb hby at_100) rfl ((if0 _ _).trans (feq (fun q => ((own_law q0 tt t0 t1).mpr (Or.inr (Or.inr (Or.inr (⟨hc69_75, hb80_77⟩))))) ((lw_eq _ _).mp q))).1) k) ?_
                show Good p e below _ (T78.setTop (mkF m 103 #[.val (.long q0), .second, .val (.int p1), .val (.int tt), .val (.int (tt % (8 : Int32))), .val (.int (tt / (8 : Int32))), .val (.int (1 : Int32)), .unset] []))
                refine Good.back (fun _ k => XS.iconst X78.here hx rfl (hb hby at_103) k) ?_
                show Good p e below _ (T78.setTop (mkF m 104 #[.val (.long q0), .second, .val (.int p1), .val (.int tt), .val (.int (tt % (8 : Int32))), .val (.int (tt / (8 : Int32))), .val (.int (1 : Int32)), .unset] [(.int (1 : Int32))]))
                refine Good.back (fun _ k => XS.goto X78.here hx rfl (pc0 := 104) (pc' := 108) rfl (hb hby at_104) (by decide) (by decide) k) ?_
                show Good p e below _ (T78.setTop (mkF m 108 #[.val (.long q0), .second, .val (.int p1), .val (.int tt), .val (.int (tt % (8 : Int32))), .val (.int (tt / (8 : Int32))), .val (.int (1 : Int32)), .unset] [(.int (1 : Int32))]))
                refine Good.back (fun _ k => XS.istore X78.here hx rfl (hb hby at_108) rfl (l' := #[.val (.long q0), .second, .val (.int p1), .val (.int tt), .val (.int (tt % (8 : Int32))), .val (.int (tt / (8 : Int32))), .val (.int (1 : Int32)), .val (.int (1 : Int32))]) rfl k) ?_
                show Good p e below _ (T78.setTop (mkF m 110 #[.val (.long q0), .second, .val (.int p1), .val (.int tt), .val (.int (tt % (8 : Int32))), .val (.int (tt / (8 : Int32))), .val (.int (1 : Int32)), .val (.int (1 : Int32))] []))
                refine Good.back (fun _ k => XS.iload X78.here hx rfl (hb hby at_110) rfl k) ?_
                show Good p e below _ (T78.setTop (mkF m 112 #[.val (.long q0), .second, .val (.int p1), .val (.int tt), .val (.int (tt % (8 : Int32))), .val (.int (tt / (8 : Int32))), .val (.int (1 : Int32)), .val (.int (1 : Int32))] [(.int (1 : Int32))]))
                refine Good.back (fun _ k => XS.iload X78.here hx rfl (hb hby at_112) rfl k) ?_
                show Good p e below _ (T78.setTop (mkF m 114 #[.val (.long q0), .second, .val (.int p1), .val (.int tt), .val (.int (tt % (8 : Int32))), .val (.int (tt / (8 : Int32))), .val (.int (1 : Int32)), .val (.int (1 : Int32))] [(.int (1 : Int32)), (.int (1 : Int32))]))
                refine Good.back (fun _ k => XS.icmpNo X78.here hx rfl (hb hby at_114) rfl (teq (by decide : ((1 : Int32) = (1 : Int32)))).2 k) ?_
                show Good p e below _ (T78.setTop (mkF m 117 #[.val (.long q0), .second, .val (.int p1), .val (.int tt), .val (.int (tt % (8 : Int32))), .val (.int (tt / (8 : Int32))), .val (.int (1 : Int32)), .val (.int (1 : Int32))] []))
                refine Good.back (fun _ k => XS.iconst X78.here hx rfl (hb hby at_117) k) ?_
                show Good p e below _ (T78.setTop (mkF m 118 #[.val (.long q0), .second, .val (.int p1), .val (.int tt), .val (.int (tt % (8 : Int32))), .val (.int (tt / (8 : Int32))), .val (.int (1 : Int32)), .val (.int (1 : Int32))] [(.int (1 : Int32))]))
                refine Good.back (fun _ k => XS.goto X78.here hx rfl (pc0 := 118) (pc' := 122) rfl (hb hby at_118) (by decide) (by decide) k) ?_
                show Good p e below _ (T78.setTop (mkF m 122 #[.val (.long q0), .second, .val (.int p1), .val (.int tt), .val (.int (tt % (8 : Int32))), .val (.int (tt / (8 : Int32))), .val (.int (1 : Int32)), .val (.int (1 : Int32))] [(.int (1 : Int32))]))
                obtain ⟨fs79, hr79, hrun79, hended79, hW79, hsame79⟩ := X78.leave (v := some (.int (1 : Int32))) (fun h => by rw [Bd.returns] at h; cases h)
                refine Good.done (retN X78 hx (t := .boolean) Bd.returns (by simp) (hb hby at_122) hr79) hrun79 hended79 ⟨_, _, rfl, ?_, ⟨_, rfl⟩, hW79, hsame79.mono (by decide) (by decide)⟩
                show Q0 Z q0 p1 h0 n0 _ T78.heap _
                rw [eh78]
                exact ⟨rfl, N78⟩
              · rw [if_neg hb80_77]
                show Good p e below _ (T76.setTop (mkF m 80 #[.val (.long q0), .second, .val (.int p1), .val (.int tt), .val (.int (tt % (8 : Int32))), .val (.int (tt / (8 : Int32))), .unset, .unset] [(.int (0 : Int32))]))
                refine Good.back (fun _ k => XS.ifYes X76.here hx rfl (pc0 := 80) (pc' := 87) rfl (hb hby at_80) rfl ((if0 _ _).trans (teq (by decide : ((0 : Int32) = (0 : Int32)))).1) (by decide) (by decide) k) ?_
                show Good p e below _ (T76.setTop (mkF m 87 #[.val (.long q0), .second, .val (.int p1), .val (.int tt), .val (.int (tt % (8 : Int32))), .val (.int (tt / (8 : Int32))), .unset, .unset] []))
                refine Good.back (fun _ k => XS.iconst X76.here hx rfl (hb hby at_87) k) ?_
                show Good p e below _ (T76.setTop (mkF m 88 #[.val (.long q0), .second, .val (.int p1), .val (.int tt), .val (.int (tt % (8 : Int32))), .val (.int (tt / (8 : Int32))), .unset, .unset] [(.int (0 : Int32))]))
                refine Good.back (fun _ k => XS.istore X76.here hx rfl (hb hby at_88) rfl (l' := #[.val (.long q0), .second, .val (.int p1), .val (.int tt), .val (.int (tt % (8 : Int32))), .val (.int (tt / (8 : Int32))), .val (.int (0 : Int32)), .unset]) rfl k) ?_
                show Good p e below _ (T76.setTop (mkF m 90 #[.val (.long q0), .second, .val (.int p1), .val (.int tt), .val (.int (tt % (8 : Int32))), .val (.int (tt / (8 : Int32))), .val (.int (0 : Int32)), .unset] []))
                refine Good.back (fun _ k => XS.lloadN X76.here hx rfl (hb hby at_90) rfl k) ?_
                show Good p e below _ (T76.setTop (mkF m 91 #[.val (.long q0), .second, .val (.int p1), .val (.int tt), .val (.int (tt % (8 : Int32))), .val (.int (tt / (8 : Int32))), .val (.int (0 : Int32)), .unset] [(.long q0)]))
                obtain ⟨_, _, ⟨T80, L80, k80, n80⟩, -, X80, ⟨Lc80, hQ80, l80, y80, z80⟩, st80⟩ := Jvm.LawKit.callS X76 hx (y := (⟨"com/example/trinode/trinode/troll/Board", "neighbours", "(J)J"⟩ : MethodName)) hown (mvT hZ (hw _ (List.mem_of_getElem? (i := 4) rfl))) (mvT hZ (hw _ (List.mem_of_getElem? (i := 5) rfl))) (mvT hZ (hw _ (List.mem_of_getElem? (i := 6) rfl))) (mvT hZ (hw _ (List.mem_of_getElem? (i := 7) rfl))) (by decide) (backOf (W := 0) (rm2 l Z a0 hw [] q0  h0 n0 Z0 ) hZ (hw _ (List.mem_of_getElem? (i := 7) rfl)) (hw _ (List.mem_of_getElem? (i := 6) rfl)) (by decide) (by decide)) (g := (mkF m 91 #[.val (.long q0), .second, .val (.int p1), .val (.int tt), .val (.int (tt % (8 : Int32))), .val (.int (tt / (8 : Int32))), .val (.int (0 : Int32)), .unset] [(.long q0)])) rfl (by rw [hml]; rfl) (argsL := [(.long q0)]) (rest := []) (lenOf own_pd37 rfl) rfl (by show 2 * 0 + _ ≤ _; exact Nat.le_of_eq rfl) (hb hby at_91) (fun _ _ => ⟨rfl, eh76, (by decide : 0 + 0 ≤ _), (by decide : 0 + 0 ≤ _)⟩)
                dsimp only [Pt.U, Pt.locs, Pt.cells, Pt.slots] at X80 l80 y80 z80 st80 hQ80
                subst l80 y80 z80
                obtain ⟨rfl, N80q, eh80⟩ := hQ80
                have N80 := Fr.app N76 N80q
                refine Good.back st80 ?_
                show Good p e below _ (T80.setTop (mkF m 94 #[.val (.long q0), .second, .val (.int p1), .val (.int tt), .val (.int (tt % (8 : Int32))), .val (.int (tt / (8 : Int32))), .val (.int (0 : Int32)), .unset] [(.long (own_nb q0))]))
                refine Good.back (fun _ k => XS.iloadN X80.here hx rfl (hb hby at_94) rfl k) ?_
                show Good p e below _ (T80.setTop (mkF m 95 #[.val (.long q0), .second, .val (.int p1), .val (.int tt), .val (.int (tt % (8 : Int32))), .val (.int (tt / (8 : Int32))), .val (.int (0 : Int32)), .unset] [(.int tt), (.long (own_nb q0))]))
                refine Good.back (fun _ k => XS.lushr X80.here hx rfl (hb hby at_95) rfl k) ?_
                show Good p e below _ (T80.setTop (mkF m 96 #[.val (.long q0), .second, .val (.int p1), .val (.int tt), .val (.int (tt % (8 : Int32))), .val (.int (tt / (8 : Int32))), .val (.int (0 : Int32)), .unset] [(.long (((own_nb q0).toUInt64 >>> (tt &&& 0x3f).toInt64.toUInt64).toInt64))]))
                refine Good.back (fun _ k => XS.lconst X80.here hx rfl (hb hby at_96) k) ?_
                show Good p e below _ (T80.setTop (mkF m 97 #[.val (.long q0), .second, .val (.int p1), .val (.int tt), .val (.int (tt % (8 : Int32))), .val (.int (tt / (8 : Int32))), .val (.int (0 : Int32)), .unset] [(.long (1 : Int64)), (.long (((own_nb q0).toUInt64 >>> (tt &&& 0x3f).toInt64.toUInt64).toInt64))]))
                refine Good.back (fun _ k => XS.land X80.here hx rfl (hb hby at_97) rfl k) ?_
                show Good p e below _ (T80.setTop (mkF m 98 #[.val (.long q0), .second, .val (.int p1), .val (.int tt), .val (.int (tt % (8 : Int32))), .val (.int (tt / (8 : Int32))), .val (.int (0 : Int32)), .unset] [(.long ((((own_nb q0).toUInt64 >>> (tt &&& 0x3f).toInt64.toUInt64).toInt64) &&& (1 : Int64)))]))
                refine Good.back (fun _ k => XS.lconst X80.here hx rfl (hb hby at_98) k) ?_
                show Good p e below _ (T80.setTop (mkF m 99 #[.val (.long q0), .second, .val (.int p1), .val (.int tt), .val (.int (tt % (8 : Int32))), .val (.int (tt / (8 : Int32))), .val (.int (0 : Int32)), .unset] [(.long (0 : Int64)), (.long ((((own_nb q0).toUInt64 >>> (tt &&& 0x3f).toInt64.toUInt64).toInt64) &&& (1 : Int64)))]))
                refine Good.back (fun _ k => XS.lcmp X80.here hx rfl (hb hby at_99) rfl k) ?_
                show Good p e below _ (T80.setTop (mkF m 100 #[.val (.long q0), .second, .val (.int p1), .val (.int tt), .val (.int (tt % (8 : Int32))), .val (.int (tt / (8 : Int32))), .val (.int (0 : Int32)), .unset] [(.int (lcmpW ((((own_nb q0).toUInt64 >>> (tt &&& 0x3f).toInt64.toUInt64).toInt64) &&& (1 : Int64)) (0 : Int64)))]))
                have hno81 : ¬ own_has (own_nb q0) tt := fun y => by
                  rcases (own_law q0 tt t0 t1).mp y with x | x | x | x
                  · exact hc19_1 x.1
                  · exact hb46_67 x.2
                  · exact hb62_72 x.2
                  · exact hb80_77 x.2
                refine Good.back (fun _ k => XS.ifYes X80.here hx rfl (pc0 := 100) (pc' := 107) rfl (hb hby at_100) rfl ((if0 _ _).trans (teq ((lw_eq _ _).mpr (Classical.byContradiction fun y => hno81 y) : (lcmpW ((((own_nb q0).toUInt64 >>> (tt &&& 0x3f).toInt64.toUInt64).toInt64) &&& (1 : Int64)) (0 : Int64)) = (0 : Int32))).1) (by decide) (by decide) k) ?_
                show Good p e below _ (T80.setTop (mkF m 107 #[.val (.long q0), .second, .val (.int p1), .val (.int tt), .val (.int (tt % (8 : Int32))), .val (.int (tt / (8 : Int32))), .val (.int (0 : Int32)), .unset] []))
                refine Good.back (fun _ k => XS.iconst X80.here hx rfl (hb hby at_107) k) ?_
                show Good p e below _ (T80.setTop (mkF m 108 #[.val (.long q0), .second, .val (.int p1), .val (.int tt), .val (.int (tt % (8 : Int32))), .val (.int (tt / (8 : Int32))), .val (.int (0 : Int32)), .unset] [(.int (0 : Int32))]))
                refine Good.back (fun _ k => XS.istore X80.here hx rfl (hb hby at_108) rfl (l' := #[.val (.long q0), .second, .val (.int p1), .val (.int tt), .val (.int (tt % (8 : Int32))), .val (.int (tt / (8 : Int32))), .val (.int (0 : Int32)), .val (.int (0 : Int32))]) rfl k) ?_
                show Good p e below _ (T80.setTop (mkF m 110 #[.val (.long q0), .second, .val (.int p1), .val (.int tt), .val (.int (tt % (8 : Int32))), .val (.int (tt / (8 : Int32))), .val (.int (0 : Int32)), .val (.int (0 : Int32))] []))
                refine Good.back (fun _ k => XS.iload X80.here hx rfl (hb hby at_110) rfl k) ?_
                show Good p e below _ (T80.setTop (mkF m 112 #[.val (.long q0), .second, .val (.int p1), .val (.int tt), .val (.int (tt % (8 : Int32))), .val (.int (tt / (8 : Int32))), .val (.int (0 : Int32)), .val (.int (0 : Int32))] [(.int (0 : Int32))]))
                refine Good.back (fun _ k => XS.iload X80.here hx rfl (hb hby at_112) rfl k) ?_
                show Good p e below _ (T80.setTop (mkF m 114 #[.val (.long q0), .second, .val (.int p1), .val (.int tt), .val (.int (tt % (8 : Int32))), .val (.int (tt / (8 : Int32))), .val (.int (0 : Int32)), .val (.int (0 : Int32))] [(.int (0 : Int32)), (.int (0 : Int32))]))
                refine Good.back (fun _ k => XS.icmpNo X80.here hx rfl (hb hby at_114) rfl (teq (by decide : ((0 : Int32) = (0 : Int32)))).2 k) ?_
                show Good p e below _ (T80.setTop (mkF m 117 #[.val (.long q0), .second, .val (.int p1), .val (.int tt), .val (.int (tt % (8 : Int32))), .val (.int (tt / (8 : Int32))), .val (.int (0 : Int32)), .val (.int (0 : Int32))] []))
                refine Good.back (fun _ k => XS.iconst X80.here hx rfl (hb hby at_117) k) ?_
                show Good p e below _ (T80.setTop (mkF m 118 #[.val (.long q0), .second, .val (.int p1), .val (.int tt), .val (.int (tt % (8 : Int32))), .val (.int (tt / (8 : Int32))), .val (.int (0 : Int32)), .val (.int (0 : Int32))] [(.int (1 : Int32))]))
                refine Good.back (fun _ k => XS.goto X80.here hx rfl (pc0 := 118) (pc' := 122) rfl (hb hby at_118) (by decide) (by decide) k) ?_
                show Good p e below _ (T80.setTop (mkF m 122 #[.val (.long q0), .second, .val (.int p1), .val (.int tt), .val (.int (tt % (8 : Int32))), .val (.int (tt / (8 : Int32))), .val (.int (0 : Int32)), .val (.int (0 : Int32))] [(.int (1 : Int32))]))
                obtain ⟨fs82, hr82, hrun82, hended82, hW82, hsame82⟩ := X80.leave (v := some (.int (1 : Int32))) (fun h => by rw [Bd.returns] at h; cases h)
                refine Good.done (retN X80 hx (t := .boolean) Bd.returns (by simp) (hb hby at_122) hr82) hrun82 hended82 ⟨_, _, rfl, ?_, ⟨_, rfl⟩, hW82, hsame82.mono (by decide) (by decide)⟩
                show Q0 Z q0 p1 h0 n0 _ T80.heap _
                rw [eh80]
                exact ⟨rfl, N80⟩
            · refine Good.back (fun _ k => XS.icmpYes X71.here hx rfl (pc0 := 69) (pc' := 87) rfl (hb hby at_69) rfl (flt hc69_75).2.1 (by decide) (by decide) k) ?_
              show Good p e below _ (T71.setTop (mkF m 87 #[.val (.long q0), .second, .val (.int p1), .val (.int tt), .val (.int (tt % (8 : Int32))), .val (.int (tt / (8 : Int32))), .unset, .unset] []))
              refine Good.back (fun _ k => XS.iconst X71.here hx rfl (hb hby at_87) k) ?_
              show Good p e below _ (T71.setTop (mkF m 88 #[.val (.long q0), .second, .val (.int p1), .val (.int tt), .val (.int (tt % (8 : Int32))), .val (.int (tt / (8 : Int32))), .unset, .unset] [(.int (0 : Int32))]))
              refine Good.back (fun _ k => XS.istore X71.here hx rfl (hb hby at_88) rfl (l' := #[.val (.long q0), .second, .val (.int p1), .val (.int tt), .val (.int (tt % (8 : Int32))), .val (.int (tt / (8 : Int32))), .val (.int (0 : Int32)), .unset]) rfl k) ?_
              show Good p e below _ (T71.setTop (mkF m 90 #[.val (.long q0), .second, .val (.int p1), .val (.int tt), .val (.int (tt % (8 : Int32))), .val (.int (tt / (8 : Int32))), .val (.int (0 : Int32)), .unset] []))
              refine Good.back (fun _ k => XS.lloadN X71.here hx rfl (hb hby at_90) rfl k) ?_
              show Good p e below _ (T71.setTop (mkF m 91 #[.val (.long q0), .second, .val (.int p1), .val (.int tt), .val (.int (tt % (8 : Int32))), .val (.int (tt / (8 : Int32))), .val (.int (0 : Int32)), .unset] [(.long q0)]))
              obtain ⟨_, _, ⟨T83, L83, k83, n83⟩, -, X83, ⟨Lc83, hQ83, l83, y83, z83⟩, st83⟩ := Jvm.LawKit.callS X71 hx (y := (⟨"com/example/trinode/trinode/troll/Board", "neighbours", "(J)J"⟩ : MethodName)) hown (mvT hZ (hw _ (List.mem_of_getElem? (i := 4) rfl))) (mvT hZ (hw _ (List.mem_of_getElem? (i := 5) rfl))) (mvT hZ (hw _ (List.mem_of_getElem? (i := 6) rfl))) (mvT hZ (hw _ (List.mem_of_getElem? (i := 7) rfl))) (by decide) (backOf (W := 0) (rm2 l Z a0 hw [] q0  h0 n0 Z0 ) hZ (hw _ (List.mem_of_getElem? (i := 7) rfl)) (hw _ (List.mem_of_getElem? (i := 6) rfl)) (by decide) (by decide)) (g := (mkF m 91 #[.val (.long q0), .second, .val (.int p1), .val (.int tt), .val (.int (tt % (8 : Int32))), .val (.int (tt / (8 : Int32))), .val (.int (0 : Int32)), .unset] [(.long q0)])) rfl (by rw [hml]; rfl) (argsL := [(.long q0)]) (rest := []) (lenOf own_pd37 rfl) rfl (by show 2 * 0 + _ ≤ _; exact Nat.le_of_eq rfl) (hb hby at_91) (fun _ _ => ⟨rfl, eh71, (by decide : 0 + 0 ≤ _), (by decide : 0 + 0 ≤ _)⟩)
              dsimp only [Pt.U, Pt.locs, Pt.cells, Pt.slots] at X83 l83 y83 z83 st83 hQ83
              subst l83 y83 z83
              obtain ⟨rfl, N83q, eh83⟩ := hQ83
              have N83 := Fr.app N71 N83q
              refine Good.back st83 ?_
              show Good p e below _ (T83.setTop (mkF m 94 #[.val (.long q0), .second, .val (.int p1), .val (.int tt), .val (.int (tt % (8 : Int32))), .val (.int (tt / (8 : Int32))), .val (.int (0 : Int32)), .unset] [(.long (own_nb q0))]))
              refine Good.back (fun _ k => XS.iloadN X83.here hx rfl (hb hby at_94) rfl k) ?_
              show Good p e below _ (T83.setTop (mkF m 95 #[.val (.long q0), .second, .val (.int p1), .val (.int tt), .val (.int (tt % (8 : Int32))), .val (.int (tt / (8 : Int32))), .val (.int (0 : Int32)), .unset] [(.int tt), (.long (own_nb q0))]))
              refine Good.back (fun _ k => XS.lushr X83.here hx rfl (hb hby at_95) rfl k) ?_
              show Good p e below _ (T83.setTop (mkF m 96 #[.val (.long q0), .second, .val (.int p1), .val (.int tt), .val (.int (tt % (8 : Int32))), .val (.int (tt / (8 : Int32))), .val (.int (0 : Int32)), .unset] [(.long (((own_nb q0).toUInt64 >>> (tt &&& 0x3f).toInt64.toUInt64).toInt64))]))
              refine Good.back (fun _ k => XS.lconst X83.here hx rfl (hb hby at_96) k) ?_
              show Good p e below _ (T83.setTop (mkF m 97 #[.val (.long q0), .second, .val (.int p1), .val (.int tt), .val (.int (tt % (8 : Int32))), .val (.int (tt / (8 : Int32))), .val (.int (0 : Int32)), .unset] [(.long (1 : Int64)), (.long (((own_nb q0).toUInt64 >>> (tt &&& 0x3f).toInt64.toUInt64).toInt64))]))
              refine Good.back (fun _ k => XS.land X83.here hx rfl (hb hby at_97) rfl k) ?_
              show Good p e below _ (T83.setTop (mkF m 98 #[.val (.long q0), .second, .val (.int p1), .val (.int tt), .val (.int (tt % (8 : Int32))), .val (.int (tt / (8 : Int32))), .val (.int (0 : Int32)), .unset] [(.long ((((own_nb q0).toUInt64 >>> (tt &&& 0x3f).toInt64.toUInt64).toInt64) &&& (1 : Int64)))]))
              refine Good.back (fun _ k => XS.lconst X83.here hx rfl (hb hby at_98) k) ?_
              show Good p e below _ (T83.setTop (mkF m 99 #[.val (.long q0), .second, .val (.int p1), .val (.int tt), .val (.int (tt % (8 : Int32))), .val (.int (tt / (8 : Int32))), .val (.int (0 : Int32)), .unset] [(.long (0 : Int64)), (.long ((((own_nb q0).toUInt64 >>> (tt &&& 0x3f).toInt64.toUInt64).toInt64) &&& (1 : Int64)))]))
              refine Good.back (fun _ k => XS.lcmp X83.here hx rfl (hb hby at_99) rfl k) ?_
              show Good p e below _ (T83.setTop (mkF m 100 #[.val (.long q0), .second, .val (.int p1), .val (.int tt), .val (.int (tt % (8 : Int32))), .val (.int (tt / (8 : Int32))), .val (.int (0 : Int32)), .unset] [(.int (lcmpW ((((own_nb q0).toUInt64 >>> (tt &&& 0x3f).toInt64.toUInt64).toInt64) &&& (1 : Int64)) (0 : Int64)))]))
              have hno84 : ¬ own_has (own_nb q0) tt := fun y => by
                rcases (own_law q0 tt t0 t1).mp y with x | x | x | x
                · exact hc19_1 x.1
                · exact hb46_67 x.2
                · exact hb62_72 x.2
                · exact hc69_75 x.1
              refine Good.back (fun _ k => XS.ifYes X83.here hx rfl (pc0 := 100) (pc' := 107) rfl (hb hby at_100) rfl ((if0 _ _).trans (teq ((lw_eq _ _).mpr (Classical.byContradiction fun y => hno84 y) : (lcmpW ((((own_nb q0).toUInt64 >>> (tt &&& 0x3f).toInt64.toUInt64).toInt64) &&& (1 : Int64)) (0 : Int64)) = (0 : Int32))).1) (by decide) (by decide) k) ?_
              show Good p e below _ (T83.setTop (mkF m 107 #[.val (.long q0), .second, .val (.int p1), .val (.int tt), .val (.int (tt % (8 : Int32))), .val (.int (tt / (8 : Int32))), .val (.int (0 : Int32)), .unset] []))
              refine Good.back (fun _ k => XS.iconst X83.here hx rfl (hb hby at_107) k) ?_
              show Good p e below _ (T83.setTop (mkF m 108 #[.val (.long q0), .second, .val (.int p1), .val (.int tt), .val (.int (tt % (8 : Int32))), .val (.int (tt / (8 : Int32))), .val (.int (0 : Int32)), .unset] [(.int (0 : Int32))]))
              refine Good.back (fun _ k => XS.istore X83.here hx rfl (hb hby at_108) rfl (l' := #[.val (.long q0), .second, .val (.int p1), .val (.int tt), .val (.int (tt % (8 : Int32))), .val (.int (tt / (8 : Int32))), .val (.int (0 : Int32)), .val (.int (0 : Int32))]) rfl k) ?_
              show Good p e below _ (T83.setTop (mkF m 110 #[.val (.long q0), .second, .val (.int p1), .val (.int tt), .val (.int (tt % (8 : Int32))), .val (.int (tt / (8 : Int32))), .val (.int (0 : Int32)), .val (.int (0 : Int32))] []))
              refine Good.back (fun _ k => XS.iload X83.here hx rfl (hb hby at_110) rfl k) ?_
              show Good p e below _ (T83.setTop (mkF m 112 #[.val (.long q0), .second, .val (.int p1), .val (.int tt), .val (.int (tt % (8 : Int32))), .val (.int (tt / (8 : Int32))), .val (.int (0 : Int32)), .val (.int (0 : Int32))] [(.int (0 : Int32))]))
              refine Good.back (fun _ k => XS.iload X83.here hx rfl (hb hby at_112) rfl k) ?_
              show Good p e below _ (T83.setTop (mkF m 114 #[.val (.long q0), .second, .val (.int p1), .val (.int tt), .val (.int (tt % (8 : Int32))), .val (.int (tt / (8 : Int32))), .val (.int (0 : Int32)), .val (.int (0 : Int32))] [(.int (0 : Int32)), (.int (0 : Int32))]))
              refine Good.back (fun _ k => XS.icmpNo X83.here hx rfl (hb hby at_114) rfl (teq (by decide : ((0 : Int32) = (0 : Int32)))).2 k) ?_
              show Good p e below _ (T83.setTop (mkF m 117 #[.val (.long q0), .second, .val (.int p1), .val (.int tt), .val (.int (tt % (8 : Int32))), .val (.int (tt / (8 : Int32))), .val (.int (0 : Int32)), .val (.int (0 : Int32))] []))
              refine Good.back (fun _ k => XS.iconst X83.here hx rfl (hb hby at_117) k) ?_
              show Good p e below _ (T83.setTop (mkF m 118 #[.val (.long q0), .second, .val (.int p1), .val (.int tt), .val (.int (tt % (8 : Int32))), .val (.int (tt / (8 : Int32))), .val (.int (0 : Int32)), .val (.int (0 : Int32))] [(.int (1 : Int32))]))
              refine Good.back (fun _ k => XS.goto X83.here hx rfl (pc0 := 118) (pc' := 122) rfl (hb hby at_118) (by decide) (by decide) k) ?_
              show Good p e below _ (T83.setTop (mkF m 122 #[.val (.long q0), .second, .val (.int p1), .val (.int tt), .val (.int (tt % (8 : Int32))), .val (.int (tt / (8 : Int32))), .val (.int (0 : Int32)), .val (.int (0 : Int32))] [(.int (1 : Int32))]))
              obtain ⟨fs85, hr85, hrun85, hended85, hW85, hsame85⟩ := X83.leave (v := some (.int (1 : Int32))) (fun h => by rw [Bd.returns] at h; cases h)
              refine Good.done (retN X83 hx (t := .boolean) Bd.returns (by simp) (hb hby at_122) hr85) hrun85 hended85 ⟨_, _, rfl, ?_, ⟨_, rfl⟩, hW85, hsame85.mono (by decide) (by decide)⟩
              show Q0 Z q0 p1 h0 n0 _ T83.heap _
              rw [eh83]
              exact ⟨rfl, N83⟩
        · refine Good.back (fun _ k => XS.ifYes X66.here hx rfl (pc0 := 51) (pc' := 65) rfl (hb hby at_51) rfl ((if0 _ _).trans (flt hc51_70).2.2.2) (by decide) (by decide) k) ?_
          show Good p e below _ (T66.setTop (mkF m 65 #[.val (.long q0), .second, .val (.int p1), .val (.int tt), .val (.int (tt % (8 : Int32))), .val (.int (tt / (8 : Int32))), .unset, .unset] []))
          refine Good.back (fun _ k => XS.iload X66.here hx rfl (hb hby at_65) rfl k) ?_
          show Good p e below _ (T66.setTop (mkF m 67 #[.val (.long q0), .second, .val (.int p1), .val (.int tt), .val (.int (tt % (8 : Int32))), .val (.int (tt / (8 : Int32))), .unset, .unset] [(.int (tt / (8 : Int32)))]))
          refine Good.back (fun _ k => XS.bipush X66.here hx rfl (hb hby at_67) k) ?_
          show Good p e below _ (T66.setTop (mkF m 69 #[.val (.long q0), .second, .val (.int p1), .val (.int tt), .val (.int (tt % (8 : Int32))), .val (.int (tt / (8 : Int32))), .unset, .unset] [(.int (7 : Int32)), (.int (tt / (8 : Int32)))]))
          by_cases hc69_86 : (tt / (8 : Int32)) < (7 : Int32)
          · refine Good.back (fun _ k => XS.icmpNo X66.here hx rfl (hb hby at_69) rfl (tlt hc69_86).2.1 k) ?_
            show Good p e below _ (T66.setTop (mkF m 72 #[.val (.long q0), .second, .val (.int p1), .val (.int tt), .val (.int (tt % (8 : Int32))), .val (.int (tt / (8 : Int32))), .unset, .unset] []))
            refine Good.back (fun _ k => XS.lloadN X66.here hx rfl (hb hby at_72) rfl k) ?_
            show Good p e below _ (T66.setTop (mkF m 73 #[.val (.long q0), .second, .val (.int p1), .val (.int tt), .val (.int (tt % (8 : Int32))), .val (.int (tt / (8 : Int32))), .unset, .unset] [(.long q0)]))
            refine Good.back (fun _ k => XS.iloadN X66.here hx rfl (hb hby at_73) rfl k) ?_
            show Good p e below _ (T66.setTop (mkF m 74 #[.val (.long q0), .second, .val (.int p1), .val (.int tt), .val (.int (tt % (8 : Int32))), .val (.int (tt / (8 : Int32))), .unset, .unset] [(.int tt), (.long q0)]))
            refine Good.back (fun _ k => XS.bipush X66.here hx rfl (hb hby at_74) k) ?_
            show Good p e below _ (T66.setTop (mkF m 76 #[.val (.long q0), .second, .val (.int p1), .val (.int tt), .val (.int (tt % (8 : Int32))), .val (.int (tt / (8 : Int32))), .unset, .unset] [(.int (8 : Int32)), (.int tt), (.long q0)]))
            refine Good.back (fun _ k => XS.iadd X66.here hx rfl (hb hby at_76) rfl k) ?_
            show Good p e below _ (T66.setTop (mkF m 77 #[.val (.long q0), .second, .val (.int p1), .val (.int tt), .val (.int (tt % (8 : Int32))), .val (.int (tt / (8 : Int32))), .unset, .unset] [(.int (tt + (8 : Int32))), (.long q0)]))
            obtain ⟨_, _, ⟨T87, L87, k87, n87⟩, -, X87, ⟨Lc87, hQ87, l87, y87, z87⟩, st87⟩ := Jvm.LawKit.callS X66 hx (y := (⟨"com/example/trinode/trinode/troll/BoardNeighboursPinLaw", "has", "(JI)Z"⟩ : MethodName)) hown (mvT hZ (hw _ (List.mem_of_getElem? (i := 0) rfl))) (mvT hZ (hw _ (List.mem_of_getElem? (i := 1) rfl))) (mvT hZ (hw _ (List.mem_of_getElem? (i := 2) rfl))) (mvT hZ (hw _ (List.mem_of_getElem? (i := 3) rfl))) (by decide) (backOf (W := 0) (rm1 l Z a0 hw [] q0 (tt + (8 : Int32))  h0 n0 Z0 ) hZ (hw _ (List.mem_of_getElem? (i := 3) rfl)) (hw _ (List.mem_of_getElem? (i := 2) rfl)) (by decide) (by decide)) (g := (mkF m 77 #[.val (.long q0), .second, .val (.int p1), .val (.int tt), .val (.int (tt % (8 : Int32))), .val (.int (tt / (8 : Int32))), .unset, .unset] [(.int (tt + (8 : Int32))), (.long q0)])) rfl (by rw [hml]; rfl) (argsL := [(.long q0), (.int (tt + (8 : Int32)))]) (rest := []) (lenOf own_pd36 rfl) rfl (by show 2 * 0 + _ ≤ _; exact Nat.le_of_eq rfl) (hb hby at_77) (fun _ _ => ⟨rfl, eh66, (by decide : 0 + 0 ≤ _), (by decide : 0 + 0 ≤ _)⟩)
            dsimp only [Pt.U, Pt.locs, Pt.cells, Pt.slots] at X87 l87 y87 z87 st87 hQ87
            subst l87 y87 z87
            obtain ⟨rfl, N87q, eh87⟩ := hQ87
            have N87 := Fr.app N66 N87q
            refine Good.back st87 ?_
            show Good p e below _ (T87.setTop (mkF m 80 #[.val (.long q0), .second, .val (.int p1), .val (.int tt), .val (.int (tt % (8 : Int32))), .val (.int (tt / (8 : Int32))), .unset, .unset] [(.int (if own_has q0 (tt + (8 : Int32)) then (1 : Int32) else (0 : Int32)))]))
            by_cases hb80_88 : own_has q0 (tt + (8 : Int32))
            · rw [if_pos hb80_88]
              show Good p e below _ (T87.setTop (mkF m 80 #[.val (.long q0), .second, .val (.int p1), .val (.int tt), .val (.int (tt % (8 : Int32))), .val (.int (tt / (8 : Int32))), .unset, .unset] [(.int (1 : Int32))]))
              refine Good.back (fun _ k => XS.ifNo X87.here hx rfl (hb hby at_80) rfl ((if0 _ _).trans (feq (by decide : ¬ ((1 : Int32) = (0 : Int32)))).1) k) ?_
              show Good p e below _ (T87.setTop (mkF m 83 #[.val (.long q0), .second, .val (.int p1), .val (.int tt), .val (.int (tt % (8 : Int32))), .val (.int (tt / (8 : Int32))), .unset, .unset] []))
              refine Good.back (fun _ k => XS.iconst X87.here hx rfl (hb hby at_83) k) ?_
              show Good p e below _ (T87.setTop (mkF m 84 #[.val (.long q0), .second, .val (.int p1), .val (.int tt), .val (.int (tt % (8 : Int32))), .val (.int (tt / (8 : Int32))), .unset, .unset] [(.int (1 : Int32))]))
              refine Good.back (fun _ k => XS.goto X87.here hx rfl (pc0 := 84) (pc' := 88) rfl (hb hby at_84) (by decide) (by decide) k) ?_
              show Good p e below _ (T87.setTop (mkF m 88 #[.val (.long q0), .second, .val (.int p1), .val (.int tt), .val (.int (tt % (8 : Int32))), .val (.int (tt / (8 : Int32))), .unset, .unset] [(.int (1 : Int32))]))
              refine Good.back (fun _ k => XS.istore X87.here hx rfl (hb hby at_88) rfl (l' := #[.val (.long q0), .second, .val (.int p1), .val (.int tt), .val (.int (tt % (8 : Int32))), .val (.int (tt / (8 : Int32))), .val (.int (1 : Int32)), .unset]) rfl k) ?_
              show Good p e below _ (T87.setTop (mkF m 90 #[.val (.long q0), .second, .val (.int p1), .val (.int tt), .val (.int (tt % (8 : Int32))), .val (.int (tt / (8 : Int32))), .val (.int (1 : Int32)), .unset] []))
              refine Good.back (fun _ k => XS.lloadN X87.here hx rfl (hb hby at_90) rfl k) ?_
              show Good p e below _ (T87.setTop (mkF m 91 #[.val (.long q0), .second, .val (.int p1), .val (.int tt), .val (.int (tt % (8 : Int32))), .val (.int (tt / (8 : Int32))), .val (.int (1 : Int32)), .unset] [(.long q0)]))
              obtain ⟨_, _, ⟨T89, L89, k89, n89⟩, -, X89, ⟨Lc89, hQ89, l89, y89, z89⟩, st89⟩ := Jvm.LawKit.callS X87 hx (y := (⟨"com/example/trinode/trinode/troll/Board", "neighbours", "(J)J"⟩ : MethodName)) hown (mvT hZ (hw _ (List.mem_of_getElem? (i := 4) rfl))) (mvT hZ (hw _ (List.mem_of_getElem? (i := 5) rfl))) (mvT hZ (hw _ (List.mem_of_getElem? (i := 6) rfl))) (mvT hZ (hw _ (List.mem_of_getElem? (i := 7) rfl))) (by decide) (backOf (W := 0) (rm2 l Z a0 hw [] q0  h0 n0 Z0 ) hZ (hw _ (List.mem_of_getElem? (i := 7) rfl)) (hw _ (List.mem_of_getElem? (i := 6) rfl)) (by decide) (by decide)) (g := (mkF m 91 #[.val (.long q0), .second, .val (.int p1), .val (.int tt), .val (.int (tt % (8 : Int32))), .val (.int (tt / (8 : Int32))), .val (.int (1 : Int32)), .unset] [(.long q0)])) rfl (by rw [hml]; rfl) (argsL := [(.long q0)]) (rest := []) (lenOf own_pd37 rfl) rfl (by show 2 * 0 + _ ≤ _; exact Nat.le_of_eq rfl) (hb hby at_91) (fun _ _ => ⟨rfl, eh87, (by decide : 0 + 0 ≤ _), (by decide : 0 + 0 ≤ _)⟩)
              dsimp only [Pt.U, Pt.locs, Pt.cells, Pt.slots] at X89 l89 y89 z89 st89 hQ89
              subst l89 y89 z89
              obtain ⟨rfl, N89q, eh89⟩ := hQ89
              have N89 := Fr.app N87 N89q
              refine Good.back st89 ?_
              show Good p e below _ (T89.setTop (mkF m 94 #[.val (.long q0), .second, .val (.int p1), .val (.int tt), .val (.int (tt % (8 : Int32))), .val (.int (tt / (8 : Int32))), .val (.int (1 : Int32)), .unset] [(.long (own_nb q0))]))
              refine Good.back (fun _ k => XS.iloadN X89.here hx rfl (hb hby at_94) rfl k) ?_
              show Good p e below _ (T89.setTop (mkF m 95 #[.val (.long q0), .second, .val (.int p1), .val (.int tt), .val (.int (tt % (8 : Int32))), .val (.int (tt / (8 : Int32))), .val (.int (1 : Int32)), .unset] [(.int tt), (.long (own_nb q0))]))
              refine Good.back (fun _ k => XS.lushr X89.here hx rfl (hb hby at_95) rfl k) ?_
              show Good p e below _ (T89.setTop (mkF m 96 #[.val (.long q0), .second, .val (.int p1), .val (.int tt), .val (.int (tt % (8 : Int32))), .val (.int (tt / (8 : Int32))), .val (.int (1 : Int32)), .unset] [(.long (((own_nb q0).toUInt64 >>> (tt &&& 0x3f).toInt64.toUInt64).toInt64))]))
              refine Good.back (fun _ k => XS.lconst X89.here hx rfl (hb hby at_96) k) ?_
              show Good p e below _ (T89.setTop (mkF m 97 #[.val (.long q0), .second, .val (.int p1), .val (.int tt), .val (.int (tt % (8 : Int32))), .val (.int (tt / (8 : Int32))), .val (.int (1 : Int32)), .unset] [(.long (1 : Int64)), (.long (((own_nb q0).toUInt64 >>> (tt &&& 0x3f).toInt64.toUInt64).toInt64))]))
              refine Good.back (fun _ k => XS.land X89.here hx rfl (hb hby at_97) rfl k) ?_
              show Good p e below _ (T89.setTop (mkF m 98 #[.val (.long q0), .second, .val (.int p1), .val (.int tt), .val (.int (tt % (8 : Int32))), .val (.int (tt / (8 : Int32))), .val (.int (1 : Int32)), .unset] [(.long ((((own_nb q0).toUInt64 >>> (tt &&& 0x3f).toInt64.toUInt64).toInt64) &&& (1 : Int64)))]))
              refine Good.back (fun _ k => XS.lconst X89.here hx rfl (hb hby at_98) k) ?_
              show Good p e below _ (T89.setTop (mkF m 99 #[.val (.long q0), .second, .val (.int p1), .val (.int tt), .val (.int (tt % (8 : Int32))), .val (.int (tt / (8 : Int32))), .val (.int (1 : Int32)), .unset] [(.long (0 : Int64)), (.long ((((own_nb q0).toUInt64 >>> (tt &&& 0x3f).toInt64.toUInt64).toInt64) &&& (1 : Int64)))]))
              refine Good.back (fun _ k => XS.lcmp X89.here hx rfl (hb hby at_99) rfl k) ?_
              show Good p e below _ (T89.setTop (mkF m 100 #[.val (.long q0), .second, .val (.int p1), .val (.int tt), .val (.int (tt % (8 : Int32))), .val (.int (tt / (8 : Int32))), .val (.int (1 : Int32)), .unset] [(.int (lcmpW ((((own_nb q0).toUInt64 >>> (tt &&& 0x3f).toInt64.toUInt64).toInt64) &&& (1 : Int64)) (0 : Int64)))]))
              refine Good.back (fun _ k => XS.ifNo X89.here hx rfl (hb hby at_100) rfl ((if0 _ _).trans (feq (fun q => ((own_law q0 tt t0 t1).mpr (Or.inr (Or.inr (Or.inr (⟨hc69_86, hb80_88⟩))))) ((lw_eq _ _).mp q))).1) k) ?_
              show Good p e below _ (T89.setTop (mkF m 103 #[.val (.long q0), .second, .val (.int p1), .val (.int tt), .val (.int (tt % (8 : Int32))), .val (.int (tt / (8 : Int32))), .val (.int (1 : Int32)), .unset] []))
              refine Good.back (fun _ k => XS.iconst X89.here hx rfl (hb hby at_103) k) ?_
              show Good p e below _ (T89.setTop (mkF m 104 #[.val (.long q0), .second, .val (.int p1), .val (.int tt), .val (.int (tt % (8 : Int32))), .val (.int (tt / (8 : Int32))), .val (.int (1 : Int32)), .unset] [(.int (1 : Int32))]))
              refine Good.back (fun _ k => XS.goto X89.here hx rfl (pc0 := 104) (pc' := 108) rfl (hb hby at_104) (by decide) (by decide) k) ?_
              show Good p e below _ (T89.setTop (mkF m 108 #[.val (.long q0), .second, .val (.int p1), .val (.int tt), .val (.int (tt % (8 : Int32))), .val (.int (tt / (8 : Int32))), .val (.int (1 : Int32)), .unset] [(.int (1 : Int32))]))
              refine Good.back (fun _ k => XS.istore X89.here hx rfl (hb hby at_108) rfl (l' := #[.val (.long q0), .second, .val (.int p1), .val (.int tt), .val (.int (tt % (8 : Int32))), .val (.int (tt / (8 : Int32))), .val (.int (1 : Int32)), .val (.int (1 : Int32))]) rfl k) ?_
              show Good p e below _ (T89.setTop (mkF m 110 #[.val (.long q0), .second, .val (.int p1), .val (.int tt), .val (.int (tt % (8 : Int32))), .val (.int (tt / (8 : Int32))), .val (.int (1 : Int32)), .val (.int (1 : Int32))] []))
              refine Good.back (fun _ k => XS.iload X89.here hx rfl (hb hby at_110) rfl k) ?_
              show Good p e below _ (T89.setTop (mkF m 112 #[.val (.long q0), .second, .val (.int p1), .val (.int tt), .val (.int (tt % (8 : Int32))), .val (.int (tt / (8 : Int32))), .val (.int (1 : Int32)), .val (.int (1 : Int32))] [(.int (1 : Int32))]))
              refine Good.back (fun _ k => XS.iload X89.here hx rfl (hb hby at_112) rfl k) ?_
              show Good p e below _ (T89.setTop (mkF m 114 #[.val (.long q0), .second, .val (.int p1), .val (.int tt), .val (.int (tt % (8 : Int32))), .val (.int (tt / (8 : Int32))), .val (.int (1 : Int32)), .val (.int (1 : Int32))] [(.int (1 : Int32)), (.int (1 : Int32))]))
              refine Good.back (fun _ k => XS.icmpNo X89.here hx rfl (hb hby at_114) rfl (teq (by decide : ((1 : Int32) = (1 : Int32)))).2 k) ?_
              show Good p e below _ (T89.setTop (mkF m 117 #[.val (.long q0), .second, .val (.int p1), .val (.int tt), .val (.int (tt % (8 : Int32))), .val (.int (tt / (8 : Int32))), .val (.int (1 : Int32)), .val (.int (1 : Int32))] []))
              refine Good.back (fun _ k => XS.iconst X89.here hx rfl (hb hby at_117) k) ?_
              show Good p e below _ (T89.setTop (mkF m 118 #[.val (.long q0), .second, .val (.int p1), .val (.int tt), .val (.int (tt % (8 : Int32))), .val (.int (tt / (8 : Int32))), .val (.int (1 : Int32)), .val (.int (1 : Int32))] [(.int (1 : Int32))]))
              refine Good.back (fun _ k => XS.goto X89.here hx rfl (pc0 := 118) (pc' := 122) rfl (hb hby at_118) (by decide) (by decide) k) ?_
              show Good p e below _ (T89.setTop (mkF m 122 #[.val (.long q0), .second, .val (.int p1), .val (.int tt), .val (.int (tt % (8 : Int32))), .val (.int (tt / (8 : Int32))), .val (.int (1 : Int32)), .val (.int (1 : Int32))] [(.int (1 : Int32))]))
              obtain ⟨fs90, hr90, hrun90, hended90, hW90, hsame90⟩ := X89.leave (v := some (.int (1 : Int32))) (fun h => by rw [Bd.returns] at h; cases h)
              refine Good.done (retN X89 hx (t := .boolean) Bd.returns (by simp) (hb hby at_122) hr90) hrun90 hended90 ⟨_, _, rfl, ?_, ⟨_, rfl⟩, hW90, hsame90.mono (by decide) (by decide)⟩
              show Q0 Z q0 p1 h0 n0 _ T89.heap _
              rw [eh89]
              exact ⟨rfl, N89⟩
            · rw [if_neg hb80_88]
              show Good p e below _ (T87.setTop (mkF m 80 #[.val (.long q0), .second, .val (.int p1), .val (.int tt), .val (.int (tt % (8 : Int32))), .val (.int (tt / (8 : Int32))), .unset, .unset] [(.int (0 : Int32))]))
              refine Good.back (fun _ k => XS.ifYes X87.here hx rfl (pc0 := 80) (pc' := 87) rfl (hb hby at_80) rfl ((if0 _ _).trans (teq (by decide : ((0 : Int32) = (0 : Int32)))).1) (by decide) (by decide) k) ?_
              show Good p e below _ (T87.setTop (mkF m 87 #[.val (.long q0), .second, .val (.int p1), .val (.int tt), .val (.int (tt % (8 : Int32))), .val (.int (tt / (8 : Int32))), .unset, .unset] []))
              refine Good.back (fun _ k => XS.iconst X87.here hx rfl (hb hby at_87) k) ?_
              show Good p e below _ (T87.setTop (mkF m 88 #[.val (.long q0), .second, .val (.int p1), .val (.int tt), .val (.int (tt % (8 : Int32))), .val (.int (tt / (8 : Int32))), .unset, .unset] [(.int (0 : Int32))]))
              refine Good.back (fun _ k => XS.istore X87.here hx rfl (hb hby at_88) rfl (l' := #[.val (.long q0), .second, .val (.int p1), .val (.int tt), .val (.int (tt % (8 : Int32))), .val (.int (tt / (8 : Int32))), .val (.int (0 : Int32)), .unset]) rfl k) ?_
              show Good p e below _ (T87.setTop (mkF m 90 #[.val (.long q0), .second, .val (.int p1), .val (.int tt), .val (.int (tt % (8 : Int32))), .val (.int (tt / (8 : Int32))), .val (.int (0 : Int32)), .unset] []))
              refine Good.back (fun _ k => XS.lloadN X87.here hx rfl (hb hby at_90) rfl k) ?_
              show Good p e below _ (T87.setTop (mkF m 91 #[.val (.long q0), .second, .val (.int p1), .val (.int tt), .val (.int (tt % (8 : Int32))), .val (.int (tt / (8 : Int32))), .val (.int (0 : Int32)), .unset] [(.long q0)]))
              obtain ⟨_, _, ⟨T91, L91, k91, n91⟩, -, X91, ⟨Lc91, hQ91, l91, y91, z91⟩, st91⟩ := Jvm.LawKit.callS X87 hx (y := (⟨"com/example/trinode/trinode/troll/Board", "neighbours", "(J)J"⟩ : MethodName)) hown (mvT hZ (hw _ (List.mem_of_getElem? (i := 4) rfl))) (mvT hZ (hw _ (List.mem_of_getElem? (i := 5) rfl))) (mvT hZ (hw _ (List.mem_of_getElem? (i := 6) rfl))) (mvT hZ (hw _ (List.mem_of_getElem? (i := 7) rfl))) (by decide) (backOf (W := 0) (rm2 l Z a0 hw [] q0  h0 n0 Z0 ) hZ (hw _ (List.mem_of_getElem? (i := 7) rfl)) (hw _ (List.mem_of_getElem? (i := 6) rfl)) (by decide) (by decide)) (g := (mkF m 91 #[.val (.long q0), .second, .val (.int p1), .val (.int tt), .val (.int (tt % (8 : Int32))), .val (.int (tt / (8 : Int32))), .val (.int (0 : Int32)), .unset] [(.long q0)])) rfl (by rw [hml]; rfl) (argsL := [(.long q0)]) (rest := []) (lenOf own_pd37 rfl) rfl (by show 2 * 0 + _ ≤ _; exact Nat.le_of_eq rfl) (hb hby at_91) (fun _ _ => ⟨rfl, eh87, (by decide : 0 + 0 ≤ _), (by decide : 0 + 0 ≤ _)⟩)
              dsimp only [Pt.U, Pt.locs, Pt.cells, Pt.slots] at X91 l91 y91 z91 st91 hQ91
              subst l91 y91 z91
              obtain ⟨rfl, N91q, eh91⟩ := hQ91
              have N91 := Fr.app N87 N91q
              refine Good.back st91 ?_
              show Good p e below _ (T91.setTop (mkF m 94 #[.val (.long q0), .second, .val (.int p1), .val (.int tt), .val (.int (tt % (8 : Int32))), .val (.int (tt / (8 : Int32))), .val (.int (0 : Int32)), .unset] [(.long (own_nb q0))]))
              refine Good.back (fun _ k => XS.iloadN X91.here hx rfl (hb hby at_94) rfl k) ?_
              show Good p e below _ (T91.setTop (mkF m 95 #[.val (.long q0), .second, .val (.int p1), .val (.int tt), .val (.int (tt % (8 : Int32))), .val (.int (tt / (8 : Int32))), .val (.int (0 : Int32)), .unset] [(.int tt), (.long (own_nb q0))]))
              refine Good.back (fun _ k => XS.lushr X91.here hx rfl (hb hby at_95) rfl k) ?_
              show Good p e below _ (T91.setTop (mkF m 96 #[.val (.long q0), .second, .val (.int p1), .val (.int tt), .val (.int (tt % (8 : Int32))), .val (.int (tt / (8 : Int32))), .val (.int (0 : Int32)), .unset] [(.long (((own_nb q0).toUInt64 >>> (tt &&& 0x3f).toInt64.toUInt64).toInt64))]))
              refine Good.back (fun _ k => XS.lconst X91.here hx rfl (hb hby at_96) k) ?_
              show Good p e below _ (T91.setTop (mkF m 97 #[.val (.long q0), .second, .val (.int p1), .val (.int tt), .val (.int (tt % (8 : Int32))), .val (.int (tt / (8 : Int32))), .val (.int (0 : Int32)), .unset] [(.long (1 : Int64)), (.long (((own_nb q0).toUInt64 >>> (tt &&& 0x3f).toInt64.toUInt64).toInt64))]))
              refine Good.back (fun _ k => XS.land X91.here hx rfl (hb hby at_97) rfl k) ?_
              show Good p e below _ (T91.setTop (mkF m 98 #[.val (.long q0), .second, .val (.int p1), .val (.int tt), .val (.int (tt % (8 : Int32))), .val (.int (tt / (8 : Int32))), .val (.int (0 : Int32)), .unset] [(.long ((((own_nb q0).toUInt64 >>> (tt &&& 0x3f).toInt64.toUInt64).toInt64) &&& (1 : Int64)))]))
              refine Good.back (fun _ k => XS.lconst X91.here hx rfl (hb hby at_98) k) ?_
              show Good p e below _ (T91.setTop (mkF m 99 #[.val (.long q0), .second, .val (.int p1), .val (.int tt), .val (.int (tt % (8 : Int32))), .val (.int (tt / (8 : Int32))), .val (.int (0 : Int32)), .unset] [(.long (0 : Int64)), (.long ((((own_nb q0).toUInt64 >>> (tt &&& 0x3f).toInt64.toUInt64).toInt64) &&& (1 : Int64)))]))
              refine Good.back (fun _ k => XS.lcmp X91.here hx rfl (hb hby at_99) rfl k) ?_
              show Good p e below _ (T91.setTop (mkF m 100 #[.val (.long q0), .second, .val (.int p1), .val (.int tt), .val (.int (tt % (8 : Int32))), .val (.int (tt / (8 : Int32))), .val (.int (0 : Int32)), .unset] [(.int (lcmpW ((((own_nb q0).toUInt64 >>> (tt &&& 0x3f).toInt64.toUInt64).toInt64) &&& (1 : Int64)) (0 : Int64)))]))
              have hno92 : ¬ own_has (own_nb q0) tt := fun y => by
                rcases (own_law q0 tt t0 t1).mp y with x | x | x | x
                · exact hc19_1 x.1
                · exact hb46_67 x.2
                · exact hc51_70 x.1
                · exact hb80_88 x.2
              refine Good.back (fun _ k => XS.ifYes X91.here hx rfl (pc0 := 100) (pc' := 107) rfl (hb hby at_100) rfl ((if0 _ _).trans (teq ((lw_eq _ _).mpr (Classical.byContradiction fun y => hno92 y) : (lcmpW ((((own_nb q0).toUInt64 >>> (tt &&& 0x3f).toInt64.toUInt64).toInt64) &&& (1 : Int64)) (0 : Int64)) = (0 : Int32))).1) (by decide) (by decide) k) ?_
              show Good p e below _ (T91.setTop (mkF m 107 #[.val (.long q0), .second, .val (.int p1), .val (.int tt), .val (.int (tt % (8 : Int32))), .val (.int (tt / (8 : Int32))), .val (.int (0 : Int32)), .unset] []))
              refine Good.back (fun _ k => XS.iconst X91.here hx rfl (hb hby at_107) k) ?_
              show Good p e below _ (T91.setTop (mkF m 108 #[.val (.long q0), .second, .val (.int p1), .val (.int tt), .val (.int (tt % (8 : Int32))), .val (.int (tt / (8 : Int32))), .val (.int (0 : Int32)), .unset] [(.int (0 : Int32))]))
              refine Good.back (fun _ k => XS.istore X91.here hx rfl (hb hby at_108) rfl (l' := #[.val (.long q0), .second, .val (.int p1), .val (.int tt), .val (.int (tt % (8 : Int32))), .val (.int (tt / (8 : Int32))), .val (.int (0 : Int32)), .val (.int (0 : Int32))]) rfl k) ?_
              show Good p e below _ (T91.setTop (mkF m 110 #[.val (.long q0), .second, .val (.int p1), .val (.int tt), .val (.int (tt % (8 : Int32))), .val (.int (tt / (8 : Int32))), .val (.int (0 : Int32)), .val (.int (0 : Int32))] []))
              refine Good.back (fun _ k => XS.iload X91.here hx rfl (hb hby at_110) rfl k) ?_
              show Good p e below _ (T91.setTop (mkF m 112 #[.val (.long q0), .second, .val (.int p1), .val (.int tt), .val (.int (tt % (8 : Int32))), .val (.int (tt / (8 : Int32))), .val (.int (0 : Int32)), .val (.int (0 : Int32))] [(.int (0 : Int32))]))
              refine Good.back (fun _ k => XS.iload X91.here hx rfl (hb hby at_112) rfl k) ?_
              show Good p e below _ (T91.setTop (mkF m 114 #[.val (.long q0), .second, .val (.int p1), .val (.int tt), .val (.int (tt % (8 : Int32))), .val (.int (tt / (8 : Int32))), .val (.int (0 : Int32)), .val (.int (0 : Int32))] [(.int (0 : Int32)), (.int (0 : Int32))]))
              refine Good.back (fun _ k => XS.icmpNo X91.here hx rfl (hb hby at_114) rfl (teq (by decide : ((0 : Int32) = (0 : Int32)))).2 k) ?_
              show Good p e below _ (T91.setTop (mkF m 117 #[.val (.long q0), .second, .val (.int p1), .val (.int tt), .val (.int (tt % (8 : Int32))), .val (.int (tt / (8 : Int32))), .val (.int (0 : Int32)), .val (.int (0 : Int32))] []))
              refine Good.back (fun _ k => XS.iconst X91.here hx rfl (hb hby at_117) k) ?_
              show Good p e below _ (T91.setTop (mkF m 118 #[.val (.long q0), .second, .val (.int p1), .val (.int tt), .val (.int (tt % (8 : Int32))), .val (.int (tt / (8 : Int32))), .val (.int (0 : Int32)), .val (.int (0 : Int32))] [(.int (1 : Int32))]))
              refine Good.back (fun _ k => XS.goto X91.here hx rfl (pc0 := 118) (pc' := 122) rfl (hb hby at_118) (by decide) (by decide) k) ?_
              show Good p e below _ (T91.setTop (mkF m 122 #[.val (.long q0), .second, .val (.int p1), .val (.int tt), .val (.int (tt % (8 : Int32))), .val (.int (tt / (8 : Int32))), .val (.int (0 : Int32)), .val (.int (0 : Int32))] [(.int (1 : Int32))]))
              obtain ⟨fs93, hr93, hrun93, hended93, hW93, hsame93⟩ := X91.leave (v := some (.int (1 : Int32))) (fun h => by rw [Bd.returns] at h; cases h)
              refine Good.done (retN X91 hx (t := .boolean) Bd.returns (by simp) (hb hby at_122) hr93) hrun93 hended93 ⟨_, _, rfl, ?_, ⟨_, rfl⟩, hW93, hsame93.mono (by decide) (by decide)⟩
              show Q0 Z q0 p1 h0 n0 _ T91.heap _
              rw [eh91]
              exact ⟨rfl, N91⟩
          · refine Good.back (fun _ k => XS.icmpYes X66.here hx rfl (pc0 := 69) (pc' := 87) rfl (hb hby at_69) rfl (flt hc69_86).2.1 (by decide) (by decide) k) ?_
            show Good p e below _ (T66.setTop (mkF m 87 #[.val (.long q0), .second, .val (.int p1), .val (.int tt), .val (.int (tt % (8 : Int32))), .val (.int (tt / (8 : Int32))), .unset, .unset] []))
            refine Good.back (fun _ k => XS.iconst X66.here hx rfl (hb hby at_87) k) ?_
            show Good p e below _ (T66.setTop (mkF m 88 #[.val (.long q0), .second, .val (.int p1), .val (.int tt), .val (.int (tt % (8 : Int32))), .val (.int (tt / (8 : Int32))), .unset, .unset] [(.int (0 : Int32))]))
            refine Good.back (fun _ k => XS.istore X66.here hx rfl (hb hby at_88) rfl (l' := #[.val (.long q0), .second, .val (.int p1), .val (.int tt), .val (.int (tt % (8 : Int32))), .val (.int (tt / (8 : Int32))), .val (.int (0 : Int32)), .unset]) rfl k) ?_
            show Good p e below _ (T66.setTop (mkF m 90 #[.val (.long q0), .second, .val (.int p1), .val (.int tt), .val (.int (tt % (8 : Int32))), .val (.int (tt / (8 : Int32))), .val (.int (0 : Int32)), .unset] []))
            refine Good.back (fun _ k => XS.lloadN X66.here hx rfl (hb hby at_90) rfl k) ?_
            show Good p e below _ (T66.setTop (mkF m 91 #[.val (.long q0), .second, .val (.int p1), .val (.int tt), .val (.int (tt % (8 : Int32))), .val (.int (tt / (8 : Int32))), .val (.int (0 : Int32)), .unset] [(.long q0)]))
            obtain ⟨_, _, ⟨T94, L94, k94, n94⟩, -, X94, ⟨Lc94, hQ94, l94, y94, z94⟩, st94⟩ := Jvm.LawKit.callS X66 hx (y := (⟨"com/example/trinode/trinode/troll/Board", "neighbours", "(J)J"⟩ : MethodName)) hown (mvT hZ (hw _ (List.mem_of_getElem? (i := 4) rfl))) (mvT hZ (hw _ (List.mem_of_getElem? (i := 5) rfl))) (mvT hZ (hw _ (List.mem_of_getElem? (i := 6) rfl))) (mvT hZ (hw _ (List.mem_of_getElem? (i := 7) rfl))) (by decide) (backOf (W := 0) (rm2 l Z a0 hw [] q0  h0 n0 Z0 ) hZ (hw _ (List.mem_of_getElem? (i := 7) rfl)) (hw _ (List.mem_of_getElem? (i := 6) rfl)) (by decide) (by decide)) (g := (mkF m 91 #[.val (.long q0), .second, .val (.int p1), .val (.int tt), .val (.int (tt % (8 : Int32))), .val (.int (tt / (8 : Int32))), .val (.int (0 : Int32)), .unset] [(.long q0)])) rfl (by rw [hml]; rfl) (argsL := [(.long q0)]) (rest := []) (lenOf own_pd37 rfl) rfl (by show 2 * 0 + _ ≤ _; exact Nat.le_of_eq rfl) (hb hby at_91) (fun _ _ => ⟨rfl, eh66, (by decide : 0 + 0 ≤ _), (by decide : 0 + 0 ≤ _)⟩)
            dsimp only [Pt.U, Pt.locs, Pt.cells, Pt.slots] at X94 l94 y94 z94 st94 hQ94
            subst l94 y94 z94
            obtain ⟨rfl, N94q, eh94⟩ := hQ94
            have N94 := Fr.app N66 N94q
            refine Good.back st94 ?_
            show Good p e below _ (T94.setTop (mkF m 94 #[.val (.long q0), .second, .val (.int p1), .val (.int tt), .val (.int (tt % (8 : Int32))), .val (.int (tt / (8 : Int32))), .val (.int (0 : Int32)), .unset] [(.long (own_nb q0))]))
            refine Good.back (fun _ k => XS.iloadN X94.here hx rfl (hb hby at_94) rfl k) ?_
            show Good p e below _ (T94.setTop (mkF m 95 #[.val (.long q0), .second, .val (.int p1), .val (.int tt), .val (.int (tt % (8 : Int32))), .val (.int (tt / (8 : Int32))), .val (.int (0 : Int32)), .unset] [(.int tt), (.long (own_nb q0))]))
            refine Good.back (fun _ k => XS.lushr X94.here hx rfl (hb hby at_95) rfl k) ?_
            show Good p e below _ (T94.setTop (mkF m 96 #[.val (.long q0), .second, .val (.int p1), .val (.int tt), .val (.int (tt % (8 : Int32))), .val (.int (tt / (8 : Int32))), .val (.int (0 : Int32)), .unset] [(.long (((own_nb q0).toUInt64 >>> (tt &&& 0x3f).toInt64.toUInt64).toInt64))]))
            refine Good.back (fun _ k => XS.lconst X94.here hx rfl (hb hby at_96) k) ?_
            show Good p e below _ (T94.setTop (mkF m 97 #[.val (.long q0), .second, .val (.int p1), .val (.int tt), .val (.int (tt % (8 : Int32))), .val (.int (tt / (8 : Int32))), .val (.int (0 : Int32)), .unset] [(.long (1 : Int64)), (.long (((own_nb q0).toUInt64 >>> (tt &&& 0x3f).toInt64.toUInt64).toInt64))]))
            refine Good.back (fun _ k => XS.land X94.here hx rfl (hb hby at_97) rfl k) ?_
            show Good p e below _ (T94.setTop (mkF m 98 #[.val (.long q0), .second, .val (.int p1), .val (.int tt), .val (.int (tt % (8 : Int32))), .val (.int (tt / (8 : Int32))), .val (.int (0 : Int32)), .unset] [(.long ((((own_nb q0).toUInt64 >>> (tt &&& 0x3f).toInt64.toUInt64).toInt64) &&& (1 : Int64)))]))
            refine Good.back (fun _ k => XS.lconst X94.here hx rfl (hb hby at_98) k) ?_
            show Good p e below _ (T94.setTop (mkF m 99 #[.val (.long q0), .second, .val (.int p1), .val (.int tt), .val (.int (tt % (8 : Int32))), .val (.int (tt / (8 : Int32))), .val (.int (0 : Int32)), .unset] [(.long (0 : Int64)), (.long ((((own_nb q0).toUInt64 >>> (tt &&& 0x3f).toInt64.toUInt64).toInt64) &&& (1 : Int64)))]))
            refine Good.back (fun _ k => XS.lcmp X94.here hx rfl (hb hby at_99) rfl k) ?_
            show Good p e below _ (T94.setTop (mkF m 100 #[.val (.long q0), .second, .val (.int p1), .val (.int tt), .val (.int (tt % (8 : Int32))), .val (.int (tt / (8 : Int32))), .val (.int (0 : Int32)), .unset] [(.int (lcmpW ((((own_nb q0).toUInt64 >>> (tt &&& 0x3f).toInt64.toUInt64).toInt64) &&& (1 : Int64)) (0 : Int64)))]))
            have hno95 : ¬ own_has (own_nb q0) tt := fun y => by
              rcases (own_law q0 tt t0 t1).mp y with x | x | x | x
              · exact hc19_1 x.1
              · exact hb46_67 x.2
              · exact hc51_70 x.1
              · exact hc69_86 x.1
            refine Good.back (fun _ k => XS.ifYes X94.here hx rfl (pc0 := 100) (pc' := 107) rfl (hb hby at_100) rfl ((if0 _ _).trans (teq ((lw_eq _ _).mpr (Classical.byContradiction fun y => hno95 y) : (lcmpW ((((own_nb q0).toUInt64 >>> (tt &&& 0x3f).toInt64.toUInt64).toInt64) &&& (1 : Int64)) (0 : Int64)) = (0 : Int32))).1) (by decide) (by decide) k) ?_
            show Good p e below _ (T94.setTop (mkF m 107 #[.val (.long q0), .second, .val (.int p1), .val (.int tt), .val (.int (tt % (8 : Int32))), .val (.int (tt / (8 : Int32))), .val (.int (0 : Int32)), .unset] []))
            refine Good.back (fun _ k => XS.iconst X94.here hx rfl (hb hby at_107) k) ?_
            show Good p e below _ (T94.setTop (mkF m 108 #[.val (.long q0), .second, .val (.int p1), .val (.int tt), .val (.int (tt % (8 : Int32))), .val (.int (tt / (8 : Int32))), .val (.int (0 : Int32)), .unset] [(.int (0 : Int32))]))
            refine Good.back (fun _ k => XS.istore X94.here hx rfl (hb hby at_108) rfl (l' := #[.val (.long q0), .second, .val (.int p1), .val (.int tt), .val (.int (tt % (8 : Int32))), .val (.int (tt / (8 : Int32))), .val (.int (0 : Int32)), .val (.int (0 : Int32))]) rfl k) ?_
            show Good p e below _ (T94.setTop (mkF m 110 #[.val (.long q0), .second, .val (.int p1), .val (.int tt), .val (.int (tt % (8 : Int32))), .val (.int (tt / (8 : Int32))), .val (.int (0 : Int32)), .val (.int (0 : Int32))] []))
            refine Good.back (fun _ k => XS.iload X94.here hx rfl (hb hby at_110) rfl k) ?_
            show Good p e below _ (T94.setTop (mkF m 112 #[.val (.long q0), .second, .val (.int p1), .val (.int tt), .val (.int (tt % (8 : Int32))), .val (.int (tt / (8 : Int32))), .val (.int (0 : Int32)), .val (.int (0 : Int32))] [(.int (0 : Int32))]))
            refine Good.back (fun _ k => XS.iload X94.here hx rfl (hb hby at_112) rfl k) ?_
            show Good p e below _ (T94.setTop (mkF m 114 #[.val (.long q0), .second, .val (.int p1), .val (.int tt), .val (.int (tt % (8 : Int32))), .val (.int (tt / (8 : Int32))), .val (.int (0 : Int32)), .val (.int (0 : Int32))] [(.int (0 : Int32)), (.int (0 : Int32))]))
            refine Good.back (fun _ k => XS.icmpNo X94.here hx rfl (hb hby at_114) rfl (teq (by decide : ((0 : Int32) = (0 : Int32)))).2 k) ?_
            show Good p e below _ (T94.setTop (mkF m 117 #[.val (.long q0), .second, .val (.int p1), .val (.int tt), .val (.int (tt % (8 : Int32))), .val (.int (tt / (8 : Int32))), .val (.int (0 : Int32)), .val (.int (0 : Int32))] []))
            refine Good.back (fun _ k => XS.iconst X94.here hx rfl (hb hby at_117) k) ?_
            show Good p e below _ (T94.setTop (mkF m 118 #[.val (.long q0), .second, .val (.int p1), .val (.int tt), .val (.int (tt % (8 : Int32))), .val (.int (tt / (8 : Int32))), .val (.int (0 : Int32)), .val (.int (0 : Int32))] [(.int (1 : Int32))]))
            refine Good.back (fun _ k => XS.goto X94.here hx rfl (pc0 := 118) (pc' := 122) rfl (hb hby at_118) (by decide) (by decide) k) ?_
            show Good p e below _ (T94.setTop (mkF m 122 #[.val (.long q0), .second, .val (.int p1), .val (.int tt), .val (.int (tt % (8 : Int32))), .val (.int (tt / (8 : Int32))), .val (.int (0 : Int32)), .val (.int (0 : Int32))] [(.int (1 : Int32))]))
            obtain ⟨fs96, hr96, hrun96, hended96, hW96, hsame96⟩ := X94.leave (v := some (.int (1 : Int32))) (fun h => by rw [Bd.returns] at h; cases h)
            refine Good.done (retN X94 hx (t := .boolean) Bd.returns (by simp) (hb hby at_122) hr96) hrun96 hended96 ⟨_, _, rfl, ?_, ⟨_, rfl⟩, hW96, hsame96.mono (by decide) (by decide)⟩
            show Q0 Z q0 p1 h0 n0 _ T94.heap _
            rw [eh94]
            exact ⟨rfl, N94⟩
    · refine Good.back (fun _ k => XS.icmpYes X0.here hx rfl (pc0 := 36) (pc' := 49) rfl (hb hby at_36) rfl (flt hc36_65).2.1 (by decide) (by decide) k) ?_
      show Good p e below _ (s₁.setTop (mkF m 49 #[.val (.long q0), .second, .val (.int p1), .val (.int tt), .val (.int (tt % (8 : Int32))), .val (.int (tt / (8 : Int32))), .unset, .unset] []))
      refine Good.back (fun _ k => XS.iload X0.here hx rfl (hb hby at_49) rfl k) ?_
      show Good p e below _ (s₁.setTop (mkF m 51 #[.val (.long q0), .second, .val (.int p1), .val (.int tt), .val (.int (tt % (8 : Int32))), .val (.int (tt / (8 : Int32))), .unset, .unset] [(.int (tt / (8 : Int32)))]))
      by_cases hc51_97 : (0 : Int32) < (tt / (8 : Int32))
      · refine Good.back (fun _ k => XS.ifNo X0.here hx rfl (hb hby at_51) rfl ((if0 _ _).trans (tlt hc51_97).2.2.2) k) ?_
        show Good p e below _ (s₁.setTop (mkF m 54 #[.val (.long q0), .second, .val (.int p1), .val (.int tt), .val (.int (tt % (8 : Int32))), .val (.int (tt / (8 : Int32))), .unset, .unset] []))
        refine Good.back (fun _ k => XS.lloadN X0.here hx rfl (hb hby at_54) rfl k) ?_
        show Good p e below _ (s₁.setTop (mkF m 55 #[.val (.long q0), .second, .val (.int p1), .val (.int tt), .val (.int (tt % (8 : Int32))), .val (.int (tt / (8 : Int32))), .unset, .unset] [(.long q0)]))
        refine Good.back (fun _ k => XS.iloadN X0.here hx rfl (hb hby at_55) rfl k) ?_
        show Good p e below _ (s₁.setTop (mkF m 56 #[.val (.long q0), .second, .val (.int p1), .val (.int tt), .val (.int (tt % (8 : Int32))), .val (.int (tt / (8 : Int32))), .unset, .unset] [(.int tt), (.long q0)]))
        refine Good.back (fun _ k => XS.bipush X0.here hx rfl (hb hby at_56) k) ?_
        show Good p e below _ (s₁.setTop (mkF m 58 #[.val (.long q0), .second, .val (.int p1), .val (.int tt), .val (.int (tt % (8 : Int32))), .val (.int (tt / (8 : Int32))), .unset, .unset] [(.int (8 : Int32)), (.int tt), (.long q0)]))
        refine Good.back (fun _ k => XS.isub X0.here hx rfl (hb hby at_58) rfl k) ?_
        show Good p e below _ (s₁.setTop (mkF m 59 #[.val (.long q0), .second, .val (.int p1), .val (.int tt), .val (.int (tt % (8 : Int32))), .val (.int (tt / (8 : Int32))), .unset, .unset] [(.int (tt - (8 : Int32))), (.long q0)]))
        obtain ⟨_, _, ⟨T98, L98, k98, n98⟩, -, X98, ⟨Lc98, hQ98, l98, y98, z98⟩, st98⟩ := Jvm.LawKit.callS X0 hx (y := (⟨"com/example/trinode/trinode/troll/BoardNeighboursPinLaw", "has", "(JI)Z"⟩ : MethodName)) hown (mvT hZ (hw _ (List.mem_of_getElem? (i := 0) rfl))) (mvT hZ (hw _ (List.mem_of_getElem? (i := 1) rfl))) (mvT hZ (hw _ (List.mem_of_getElem? (i := 2) rfl))) (mvT hZ (hw _ (List.mem_of_getElem? (i := 3) rfl))) (by decide) (backOf (W := 0) (rm1 l Z a0 hw [] q0 (tt - (8 : Int32))  h0 n0 Z0 ) hZ (hw _ (List.mem_of_getElem? (i := 3) rfl)) (hw _ (List.mem_of_getElem? (i := 2) rfl)) (by decide) (by decide)) (g := (mkF m 59 #[.val (.long q0), .second, .val (.int p1), .val (.int tt), .val (.int (tt % (8 : Int32))), .val (.int (tt / (8 : Int32))), .unset, .unset] [(.int (tt - (8 : Int32))), (.long q0)])) rfl (by rw [hml]; rfl) (argsL := [(.long q0), (.int (tt - (8 : Int32)))]) (rest := []) (lenOf own_pd36 rfl) rfl (by show 2 * 0 + _ ≤ _; exact Nat.le_of_eq rfl) (hb hby at_59) (fun _ _ => ⟨rfl, e0, (by decide : 0 + 0 ≤ _), (by decide : 0 + 0 ≤ _)⟩)
        dsimp only [Pt.U, Pt.locs, Pt.cells, Pt.slots] at X98 l98 y98 z98 st98 hQ98
        subst l98 y98 z98
        obtain ⟨rfl, N98q, eh98⟩ := hQ98
        have N98 := Fr.app N0 N98q
        refine Good.back st98 ?_
        show Good p e below _ (T98.setTop (mkF m 62 #[.val (.long q0), .second, .val (.int p1), .val (.int tt), .val (.int (tt % (8 : Int32))), .val (.int (tt / (8 : Int32))), .unset, .unset] [(.int (if own_has q0 (tt - (8 : Int32)) then (1 : Int32) else (0 : Int32)))]))
        by_cases hb62_99 : own_has q0 (tt - (8 : Int32))
        · rw [if_pos hb62_99]
          show Good p e below _ (T98.setTop (mkF m 62 #[.val (.long q0), .second, .val (.int p1), .val (.int tt), .val (.int (tt % (8 : Int32))), .val (.int (tt / (8 : Int32))), .unset, .unset] [(.int (1 : Int32))]))
          refine Good.back (fun _ k => XS.ifYes X98.here hx rfl (pc0 := 62) (pc' := 83) rfl (hb hby at_62) rfl ((if0 _ _).trans (feq (by decide : ¬ ((1 : Int32) = (0 : Int32)))).2) (by decide) (by decide) k) ?_
          show Good p e below _ (T98.setTop (mkF m 83 #[.val (.long q0), .second, .val (.int p1), .val (.int tt), .val (.int (tt % (8 : Int32))), .val (.int (tt / (8 : Int32))), .unset, .unset] []))
          refine Good.back (fun _ k => XS.iconst X98.here hx rfl (hb hby at_83) k) ?_
          show Good p e below _ (T98.setTop (mkF m 84 #[.val (.long q0), .second, .val (.int p1), .val (.int tt), .val (.int (tt % (8 : Int32))), .val (.int (tt / (8 : Int32))), .unset, .unset] [(.int (1 : Int32))]))
          refine Good.back (fun _ k => XS.goto X98.here hx rfl (pc0 := 84) (pc' := 88) rfl (hb hby at_84) (by decide) (by decide) k) ?_
          show Good p e below _ (T98.setTop (mkF m 88 #[.val (.long q0), .second, .val (.int p1), .val (.int tt), .val (.int (tt % (8 : Int32))), .val (.int (tt / (8 : Int32))), .unset, .unset] [(.int (1 : Int32))]))
          refine Good.back (fun _ k => XS.istore X98.here hx rfl (hb hby at_88) rfl (l' := #[.val (.long q0), .second, .val (.int p1), .val (.int tt), .val (.int (tt % (8 : Int32))), .val (.int (tt / (8 : Int32))), .val (.int (1 : Int32)), .unset]) rfl k) ?_
          show Good p e below _ (T98.setTop (mkF m 90 #[.val (.long q0), .second, .val (.int p1), .val (.int tt), .val (.int (tt % (8 : Int32))), .val (.int (tt / (8 : Int32))), .val (.int (1 : Int32)), .unset] []))
          refine Good.back (fun _ k => XS.lloadN X98.here hx rfl (hb hby at_90) rfl k) ?_
          show Good p e below _ (T98.setTop (mkF m 91 #[.val (.long q0), .second, .val (.int p1), .val (.int tt), .val (.int (tt % (8 : Int32))), .val (.int (tt / (8 : Int32))), .val (.int (1 : Int32)), .unset] [(.long q0)]))
          obtain ⟨_, _, ⟨T100, L100, k100, n100⟩, -, X100, ⟨Lc100, hQ100, l100, y100, z100⟩, st100⟩ := Jvm.LawKit.callS X98 hx (y := (⟨"com/example/trinode/trinode/troll/Board", "neighbours", "(J)J"⟩ : MethodName)) hown (mvT hZ (hw _ (List.mem_of_getElem? (i := 4) rfl))) (mvT hZ (hw _ (List.mem_of_getElem? (i := 5) rfl))) (mvT hZ (hw _ (List.mem_of_getElem? (i := 6) rfl))) (mvT hZ (hw _ (List.mem_of_getElem? (i := 7) rfl))) (by decide) (backOf (W := 0) (rm2 l Z a0 hw [] q0  h0 n0 Z0 ) hZ (hw _ (List.mem_of_getElem? (i := 7) rfl)) (hw _ (List.mem_of_getElem? (i := 6) rfl)) (by decide) (by decide)) (g := (mkF m 91 #[.val (.long q0), .second, .val (.int p1), .val (.int tt), .val (.int (tt % (8 : Int32))), .val (.int (tt / (8 : Int32))), .val (.int (1 : Int32)), .unset] [(.long q0)])) rfl (by rw [hml]; rfl) (argsL := [(.long q0)]) (rest := []) (lenOf own_pd37 rfl) rfl (by show 2 * 0 + _ ≤ _; exact Nat.le_of_eq rfl) (hb hby at_91) (fun _ _ => ⟨rfl, eh98, (by decide : 0 + 0 ≤ _), (by decide : 0 + 0 ≤ _)⟩)
          dsimp only [Pt.U, Pt.locs, Pt.cells, Pt.slots] at X100 l100 y100 z100 st100 hQ100
          subst l100 y100 z100
          obtain ⟨rfl, N100q, eh100⟩ := hQ100
          have N100 := Fr.app N98 N100q
          refine Good.back st100 ?_
          show Good p e below _ (T100.setTop (mkF m 94 #[.val (.long q0), .second, .val (.int p1), .val (.int tt), .val (.int (tt % (8 : Int32))), .val (.int (tt / (8 : Int32))), .val (.int (1 : Int32)), .unset] [(.long (own_nb q0))]))
          refine Good.back (fun _ k => XS.iloadN X100.here hx rfl (hb hby at_94) rfl k) ?_
          show Good p e below _ (T100.setTop (mkF m 95 #[.val (.long q0), .second, .val (.int p1), .val (.int tt), .val (.int (tt % (8 : Int32))), .val (.int (tt / (8 : Int32))), .val (.int (1 : Int32)), .unset] [(.int tt), (.long (own_nb q0))]))
          refine Good.back (fun _ k => XS.lushr X100.here hx rfl (hb hby at_95) rfl k) ?_
          show Good p e below _ (T100.setTop (mkF m 96 #[.val (.long q0), .second, .val (.int p1), .val (.int tt), .val (.int (tt % (8 : Int32))), .val (.int (tt / (8 : Int32))), .val (.int (1 : Int32)), .unset] [(.long (((own_nb q0).toUInt64 >>> (tt &&& 0x3f).toInt64.toUInt64).toInt64))]))
          refine Good.back (fun _ k => XS.lconst X100.here hx rfl (hb hby at_96) k) ?_
          show Good p e below _ (T100.setTop (mkF m 97 #[.val (.long q0), .second, .val (.int p1), .val (.int tt), .val (.int (tt % (8 : Int32))), .val (.int (tt / (8 : Int32))), .val (.int (1 : Int32)), .unset] [(.long (1 : Int64)), (.long (((own_nb q0).toUInt64 >>> (tt &&& 0x3f).toInt64.toUInt64).toInt64))]))
          refine Good.back (fun _ k => XS.land X100.here hx rfl (hb hby at_97) rfl k) ?_
          show Good p e below _ (T100.setTop (mkF m 98 #[.val (.long q0), .second, .val (.int p1), .val (.int tt), .val (.int (tt % (8 : Int32))), .val (.int (tt / (8 : Int32))), .val (.int (1 : Int32)), .unset] [(.long ((((own_nb q0).toUInt64 >>> (tt &&& 0x3f).toInt64.toUInt64).toInt64) &&& (1 : Int64)))]))
          refine Good.back (fun _ k => XS.lconst X100.here hx rfl (hb hby at_98) k) ?_
          show Good p e below _ (T100.setTop (mkF m 99 #[.val (.long q0), .second, .val (.int p1), .val (.int tt), .val (.int (tt % (8 : Int32))), .val (.int (tt / (8 : Int32))), .val (.int (1 : Int32)), .unset] [(.long (0 : Int64)), (.long ((((own_nb q0).toUInt64 >>> (tt &&& 0x3f).toInt64.toUInt64).toInt64) &&& (1 : Int64)))]))
          refine Good.back (fun _ k => XS.lcmp X100.here hx rfl (hb hby at_99) rfl k) ?_
          show Good p e below _ (T100.setTop (mkF m 100 #[.val (.long q0), .second, .val (.int p1), .val (.int tt), .val (.int (tt % (8 : Int32))), .val (.int (tt / (8 : Int32))), .val (.int (1 : Int32)), .unset] [(.int (lcmpW ((((own_nb q0).toUInt64 >>> (tt &&& 0x3f).toInt64.toUInt64).toInt64) &&& (1 : Int64)) (0 : Int64)))]))
          refine Good.back (fun _ k => XS.ifNo X100.here hx rfl (hb hby at_100) rfl ((if0 _ _).trans (feq (fun q => ((own_law q0 tt t0 t1).mpr (Or.inr (Or.inr (Or.inl ⟨hc51_97, hb62_99⟩)))) ((lw_eq _ _).mp q))).1) k) ?_
          show Good p e below _ (T100.setTop (mkF m 103 #[.val (.long q0), .second, .val (.int p1), .val (.int tt), .val (.int (tt % (8 : Int32))), .val (.int (tt / (8 : Int32))), .val (.int (1 : Int32)), .unset] []))
          refine Good.back (fun _ k => XS.iconst X100.here hx rfl (hb hby at_103) k) ?_
          show Good p e below _ (T100.setTop (mkF m 104 #[.val (.long q0), .second, .val (.int p1), .val (.int tt), .val (.int (tt % (8 : Int32))), .val (.int (tt / (8 : Int32))), .val (.int (1 : Int32)), .unset] [(.int (1 : Int32))]))
          refine Good.back (fun _ k => XS.goto X100.here hx rfl (pc0 := 104) (pc' := 108) rfl (hb hby at_104) (by decide) (by decide) k) ?_
          show Good p e below _ (T100.setTop (mkF m 108 #[.val (.long q0), .second, .val (.int p1), .val (.int tt), .val (.int (tt % (8 : Int32))), .val (.int (tt / (8 : Int32))), .val (.int (1 : Int32)), .unset] [(.int (1 : Int32))]))
          refine Good.back (fun _ k => XS.istore X100.here hx rfl (hb hby at_108) rfl (l' := #[.val (.long q0), .second, .val (.int p1), .val (.int tt), .val (.int (tt % (8 : Int32))), .val (.int (tt / (8 : Int32))), .val (.int (1 : Int32)), .val (.int (1 : Int32))]) rfl k) ?_
          show Good p e below _ (T100.setTop (mkF m 110 #[.val (.long q0), .second, .val (.int p1), .val (.int tt), .val (.int (tt % (8 : Int32))), .val (.int (tt / (8 : Int32))), .val (.int (1 : Int32)), .val (.int (1 : Int32))] []))
          refine Good.back (fun _ k => XS.iload X100.here hx rfl (hb hby at_110) rfl k) ?_
          show Good p e below _ (T100.setTop (mkF m 112 #[.val (.long q0), .second, .val (.int p1), .val (.int tt), .val (.int (tt % (8 : Int32))), .val (.int (tt / (8 : Int32))), .val (.int (1 : Int32)), .val (.int (1 : Int32))] [(.int (1 : Int32))]))
          refine Good.back (fun _ k => XS.iload X100.here hx rfl (hb hby at_112) rfl k) ?_
          show Good p e below _ (T100.setTop (mkF m 114 #[.val (.long q0), .second, .val (.int p1), .val (.int tt), .val (.int (tt % (8 : Int32))), .val (.int (tt / (8 : Int32))), .val (.int (1 : Int32)), .val (.int (1 : Int32))] [(.int (1 : Int32)), (.int (1 : Int32))]))
          refine Good.back (fun _ k => XS.icmpNo X100.here hx rfl (hb hby at_114) rfl (teq (by decide : ((1 : Int32) = (1 : Int32)))).2 k) ?_
          show Good p e below _ (T100.setTop (mkF m 117 #[.val (.long q0), .second, .val (.int p1), .val (.int tt), .val (.int (tt % (8 : Int32))), .val (.int (tt / (8 : Int32))), .val (.int (1 : Int32)), .val (.int (1 : Int32))] []))
          refine Good.back (fun _ k => XS.iconst X100.here hx rfl (hb hby at_117) k) ?_
          show Good p e below _ (T100.setTop (mkF m 118 #[.val (.long q0), .second, .val (.int p1), .val (.int tt), .val (.int (tt % (8 : Int32))), .val (.int (tt / (8 : Int32))), .val (.int (1 : Int32)), .val (.int (1 : Int32))] [(.int (1 : Int32))]))
          refine Good.back (fun _ k => XS.goto X100.here hx rfl (pc0 := 118) (pc' := 122) rfl (hb hby at_118) (by decide) (by decide) k) ?_
          show Good p e below _ (T100.setTop (mkF m 122 #[.val (.long q0), .second, .val (.int p1), .val (.int tt), .val (.int (tt % (8 : Int32))), .val (.int (tt / (8 : Int32))), .val (.int (1 : Int32)), .val (.int (1 : Int32))] [(.int (1 : Int32))]))
          obtain ⟨fs101, hr101, hrun101, hended101, hW101, hsame101⟩ := X100.leave (v := some (.int (1 : Int32))) (fun h => by rw [Bd.returns] at h; cases h)
          refine Good.done (retN X100 hx (t := .boolean) Bd.returns (by simp) (hb hby at_122) hr101) hrun101 hended101 ⟨_, _, rfl, ?_, ⟨_, rfl⟩, hW101, hsame101.mono (by decide) (by decide)⟩
          show Q0 Z q0 p1 h0 n0 _ T100.heap _
          rw [eh100]
          exact ⟨rfl, N100⟩
        · rw [if_neg hb62_99]
          show Good p e below _ (T98.setTop (mkF m 62 #[.val (.long q0), .second, .val (.int p1), .val (.int tt), .val (.int (tt % (8 : Int32))), .val (.int (tt / (8 : Int32))), .unset, .unset] [(.int (0 : Int32))]))
          refine Good.back (fun _ k => XS.ifNo X98.here hx rfl (hb hby at_62) rfl ((if0 _ _).trans (teq (by decide : ((0 : Int32) = (0 : Int32)))).2) k) ?_
          show Good p e below _ (T98.setTop (mkF m 65 #[.val (.long q0), .second, .val (.int p1), .val (.int tt), .val (.int (tt % (8 : Int32))), .val (.int (tt / (8 : Int32))), .unset, .unset] []))
          refine Good.back (fun _ k => XS.iload X98.here hx rfl (hb hby at_65) rfl k) ?_
          show Good p e below _ (T98.setTop (mkF m 67 #[.val (.long q0), .second, .val (.int p1), .val (.int tt), .val (.int (tt % (8 : Int32))), .val (.int (tt / (8 : Int32))), .unset, .unset] [(.int (tt / (8 : Int32)))]))
          refine Good.back (fun _ k => XS.bipush X98.here hx rfl (hb hby at_67) k) ?_
          show Good p e below _ (T98.setTop (mkF m 69 #[.val (.long q0), .second, .val (.int p1), .val (.int tt), .val (.int (tt % (8 : Int32))), .val (.int (tt / (8 : Int32))), .unset, .unset] [(.int (7 : Int32)), (.int (tt / (8 : Int32)))]))
          by_cases hc69_102 : (tt / (8 : Int32)) < (7 : Int32)
          · refine Good.back (fun _ k => XS.icmpNo X98.here hx rfl (hb hby at_69) rfl (tlt hc69_102).2.1 k) ?_
            show Good p e below _ (T98.setTop (mkF m 72 #[.val (.long q0), .second, .val (.int p1), .val (.int tt), .val (.int (tt % (8 : Int32))), .val (.int (tt / (8 : Int32))), .unset, .unset] []))
            refine Good.back (fun _ k => XS.lloadN X98.here hx rfl (hb hby at_72) rfl k) ?_
            show Good p e below _ (T98.setTop (mkF m 73 #[.val (.long q0), .second, .val (.int p1), .val (.int tt), .val (.int (tt % (8 : Int32))), .val (.int (tt / (8 : Int32))), .unset, .unset] [(.long q0)]))
            refine Good.back (fun _ k => XS.iloadN X98.here hx rfl (hb hby at_73) rfl k) ?_
            show Good p e below _ (T98.setTop (mkF m 74 #[.val (.long q0), .second, .val (.int p1), .val (.int tt), .val (.int (tt % (8 : Int32))), .val (.int (tt / (8 : Int32))), .unset, .unset] [(.int tt), (.long q0)]))
            refine Good.back (fun _ k => XS.bipush X98.here hx rfl (hb hby at_74) k) ?_
            show Good p e below _ (T98.setTop (mkF m 76 #[.val (.long q0), .second, .val (.int p1), .val (.int tt), .val (.int (tt % (8 : Int32))), .val (.int (tt / (8 : Int32))), .unset, .unset] [(.int (8 : Int32)), (.int tt), (.long q0)]))
            refine Good.back (fun _ k => XS.iadd X98.here hx rfl (hb hby at_76) rfl k) ?_
            show Good p e below _ (T98.setTop (mkF m 77 #[.val (.long q0), .second, .val (.int p1), .val (.int tt), .val (.int (tt % (8 : Int32))), .val (.int (tt / (8 : Int32))), .unset, .unset] [(.int (tt + (8 : Int32))), (.long q0)]))
            obtain ⟨_, _, ⟨T103, L103, k103, n103⟩, -, X103, ⟨Lc103, hQ103, l103, y103, z103⟩, st103⟩ := Jvm.LawKit.callS X98 hx (y := (⟨"com/example/trinode/trinode/troll/BoardNeighboursPinLaw", "has", "(JI)Z"⟩ : MethodName)) hown (mvT hZ (hw _ (List.mem_of_getElem? (i := 0) rfl))) (mvT hZ (hw _ (List.mem_of_getElem? (i := 1) rfl))) (mvT hZ (hw _ (List.mem_of_getElem? (i := 2) rfl))) (mvT hZ (hw _ (List.mem_of_getElem? (i := 3) rfl))) (by decide) (backOf (W := 0) (rm1 l Z a0 hw [] q0 (tt + (8 : Int32))  h0 n0 Z0 ) hZ (hw _ (List.mem_of_getElem? (i := 3) rfl)) (hw _ (List.mem_of_getElem? (i := 2) rfl)) (by decide) (by decide)) (g := (mkF m 77 #[.val (.long q0), .second, .val (.int p1), .val (.int tt), .val (.int (tt % (8 : Int32))), .val (.int (tt / (8 : Int32))), .unset, .unset] [(.int (tt + (8 : Int32))), (.long q0)])) rfl (by rw [hml]; rfl) (argsL := [(.long q0), (.int (tt + (8 : Int32)))]) (rest := []) (lenOf own_pd36 rfl) rfl (by show 2 * 0 + _ ≤ _; exact Nat.le_of_eq rfl) (hb hby at_77) (fun _ _ => ⟨rfl, eh98, (by decide : 0 + 0 ≤ _), (by decide : 0 + 0 ≤ _)⟩)
            dsimp only [Pt.U, Pt.locs, Pt.cells, Pt.slots] at X103 l103 y103 z103 st103 hQ103
            subst l103 y103 z103
            obtain ⟨rfl, N103q, eh103⟩ := hQ103
            have N103 := Fr.app N98 N103q
            refine Good.back st103 ?_
            show Good p e below _ (T103.setTop (mkF m 80 #[.val (.long q0), .second, .val (.int p1), .val (.int tt), .val (.int (tt % (8 : Int32))), .val (.int (tt / (8 : Int32))), .unset, .unset] [(.int (if own_has q0 (tt + (8 : Int32)) then (1 : Int32) else (0 : Int32)))]))
            by_cases hb80_104 : own_has q0 (tt + (8 : Int32))
            · rw [if_pos hb80_104]
              show Good p e below _ (T103.setTop (mkF m 80 #[.val (.long q0), .second, .val (.int p1), .val (.int tt), .val (.int (tt % (8 : Int32))), .val (.int (tt / (8 : Int32))), .unset, .unset] [(.int (1 : Int32))]))
              refine Good.back (fun _ k => XS.ifNo X103.here hx rfl (hb hby at_80) rfl ((if0 _ _).trans (feq (by decide : ¬ ((1 : Int32) = (0 : Int32)))).1) k) ?_
              show Good p e below _ (T103.setTop (mkF m 83 #[.val (.long q0), .second, .val (.int p1), .val (.int tt), .val (.int (tt % (8 : Int32))), .val (.int (tt / (8 : Int32))), .unset, .unset] []))
              refine Good.back (fun _ k => XS.iconst X103.here hx rfl (hb hby at_83) k) ?_
              show Good p e below _ (T103.setTop (mkF m 84 #[.val (.long q0), .second, .val (.int p1), .val (.int tt), .val (.int (tt % (8 : Int32))), .val (.int (tt / (8 : Int32))), .unset, .unset] [(.int (1 : Int32))]))
              refine Good.back (fun _ k => XS.goto X103.here hx rfl (pc0 := 84) (pc' := 88) rfl (hb hby at_84) (by decide) (by decide) k) ?_
              show Good p e below _ (T103.setTop (mkF m 88 #[.val (.long q0), .second, .val (.int p1), .val (.int tt), .val (.int (tt % (8 : Int32))), .val (.int (tt / (8 : Int32))), .unset, .unset] [(.int (1 : Int32))]))
              refine Good.back (fun _ k => XS.istore X103.here hx rfl (hb hby at_88) rfl (l' := #[.val (.long q0), .second, .val (.int p1), .val (.int tt), .val (.int (tt % (8 : Int32))), .val (.int (tt / (8 : Int32))), .val (.int (1 : Int32)), .unset]) rfl k) ?_
              show Good p e below _ (T103.setTop (mkF m 90 #[.val (.long q0), .second, .val (.int p1), .val (.int tt), .val (.int (tt % (8 : Int32))), .val (.int (tt / (8 : Int32))), .val (.int (1 : Int32)), .unset] []))
              refine Good.back (fun _ k => XS.lloadN X103.here hx rfl (hb hby at_90) rfl k) ?_
              show Good p e below _ (T103.setTop (mkF m 91 #[.val (.long q0), .second, .val (.int p1), .val (.int tt), .val (.int (tt % (8 : Int32))), .val (.int (tt / (8 : Int32))), .val (.int (1 : Int32)), .unset] [(.long q0)]))
              obtain ⟨_, _, ⟨T105, L105, k105, n105⟩, -, X105, ⟨Lc105, hQ105, l105, y105, z105⟩, st105⟩ := Jvm.LawKit.callS X103 hx (y := (⟨"com/example/trinode/trinode/troll/Board", "neighbours", "(J)J"⟩ : MethodName)) hown (mvT hZ (hw _ (List.mem_of_getElem? (i := 4) rfl))) (mvT hZ (hw _ (List.mem_of_getElem? (i := 5) rfl))) (mvT hZ (hw _ (List.mem_of_getElem? (i := 6) rfl))) (mvT hZ (hw _ (List.mem_of_getElem? (i := 7) rfl))) (by decide) (backOf (W := 0) (rm2 l Z a0 hw [] q0  h0 n0 Z0 ) hZ (hw _ (List.mem_of_getElem? (i := 7) rfl)) (hw _ (List.mem_of_getElem? (i := 6) rfl)) (by decide) (by decide)) (g := (mkF m 91 #[.val (.long q0), .second, .val (.int p1), .val (.int tt), .val (.int (tt % (8 : Int32))), .val (.int (tt / (8 : Int32))), .val (.int (1 : Int32)), .unset] [(.long q0)])) rfl (by rw [hml]; rfl) (argsL := [(.long q0)]) (rest := []) (lenOf own_pd37 rfl) rfl (by show 2 * 0 + _ ≤ _; exact Nat.le_of_eq rfl) (hb hby at_91) (fun _ _ => ⟨rfl, eh103, (by decide : 0 + 0 ≤ _), (by decide : 0 + 0 ≤ _)⟩)
              dsimp only [Pt.U, Pt.locs, Pt.cells, Pt.slots] at X105 l105 y105 z105 st105 hQ105
              subst l105 y105 z105
              obtain ⟨rfl, N105q, eh105⟩ := hQ105
              have N105 := Fr.app N103 N105q
              refine Good.back st105 ?_
              show Good p e below _ (T105.setTop (mkF m 94 #[.val (.long q0), .second, .val (.int p1), .val (.int tt), .val (.int (tt % (8 : Int32))), .val (.int (tt / (8 : Int32))), .val (.int (1 : Int32)), .unset] [(.long (own_nb q0))]))
              refine Good.back (fun _ k => XS.iloadN X105.here hx rfl (hb hby at_94) rfl k) ?_
              show Good p e below _ (T105.setTop (mkF m 95 #[.val (.long q0), .second, .val (.int p1), .val (.int tt), .val (.int (tt % (8 : Int32))), .val (.int (tt / (8 : Int32))), .val (.int (1 : Int32)), .unset] [(.int tt), (.long (own_nb q0))]))
              refine Good.back (fun _ k => XS.lushr X105.here hx rfl (hb hby at_95) rfl k) ?_
              show Good p e below _ (T105.setTop (mkF m 96 #[.val (.long q0), .second, .val (.int p1), .val (.int tt), .val (.int (tt % (8 : Int32))), .val (.int (tt / (8 : Int32))), .val (.int (1 : Int32)), .unset] [(.long (((own_nb q0).toUInt64 >>> (tt &&& 0x3f).toInt64.toUInt64).toInt64))]))
              refine Good.back (fun _ k => XS.lconst X105.here hx rfl (hb hby at_96) k) ?_
              show Good p e below _ (T105.setTop (mkF m 97 #[.val (.long q0), .second, .val (.int p1), .val (.int tt), .val (.int (tt % (8 : Int32))), .val (.int (tt / (8 : Int32))), .val (.int (1 : Int32)), .unset] [(.long (1 : Int64)), (.long (((own_nb q0).toUInt64 >>> (tt &&& 0x3f).toInt64.toUInt64).toInt64))]))
              refine Good.back (fun _ k => XS.land X105.here hx rfl (hb hby at_97) rfl k) ?_
              show Good p e below _ (T105.setTop (mkF m 98 #[.val (.long q0), .second, .val (.int p1), .val (.int tt), .val (.int (tt % (8 : Int32))), .val (.int (tt / (8 : Int32))), .val (.int (1 : Int32)), .unset] [(.long ((((own_nb q0).toUInt64 >>> (tt &&& 0x3f).toInt64.toUInt64).toInt64) &&& (1 : Int64)))]))
              refine Good.back (fun _ k => XS.lconst X105.here hx rfl (hb hby at_98) k) ?_
              show Good p e below _ (T105.setTop (mkF m 99 #[.val (.long q0), .second, .val (.int p1), .val (.int tt), .val (.int (tt % (8 : Int32))), .val (.int (tt / (8 : Int32))), .val (.int (1 : Int32)), .unset] [(.long (0 : Int64)), (.long ((((own_nb q0).toUInt64 >>> (tt &&& 0x3f).toInt64.toUInt64).toInt64) &&& (1 : Int64)))]))
              refine Good.back (fun _ k => XS.lcmp X105.here hx rfl (hb hby at_99) rfl k) ?_
              show Good p e below _ (T105.setTop (mkF m 100 #[.val (.long q0), .second, .val (.int p1), .val (.int tt), .val (.int (tt % (8 : Int32))), .val (.int (tt / (8 : Int32))), .val (.int (1 : Int32)), .unset] [(.int (lcmpW ((((own_nb q0).toUInt64 >>> (tt &&& 0x3f).toInt64.toUInt64).toInt64) &&& (1 : Int64)) (0 : Int64)))]))
              refine Good.back (fun _ k => XS.ifNo X105.here hx rfl (hb hby at_100) rfl ((if0 _ _).trans (feq (fun q => ((own_law q0 tt t0 t1).mpr (Or.inr (Or.inr (Or.inr (⟨hc69_102, hb80_104⟩))))) ((lw_eq _ _).mp q))).1) k) ?_
              show Good p e below _ (T105.setTop (mkF m 103 #[.val (.long q0), .second, .val (.int p1), .val (.int tt), .val (.int (tt % (8 : Int32))), .val (.int (tt / (8 : Int32))), .val (.int (1 : Int32)), .unset] []))
              refine Good.back (fun _ k => XS.iconst X105.here hx rfl (hb hby at_103) k) ?_
              show Good p e below _ (T105.setTop (mkF m 104 #[.val (.long q0), .second, .val (.int p1), .val (.int tt), .val (.int (tt % (8 : Int32))), .val (.int (tt / (8 : Int32))), .val (.int (1 : Int32)), .unset] [(.int (1 : Int32))]))
              refine Good.back (fun _ k => XS.goto X105.here hx rfl (pc0 := 104) (pc' := 108) rfl (hb hby at_104) (by decide) (by decide) k) ?_
              show Good p e below _ (T105.setTop (mkF m 108 #[.val (.long q0), .second, .val (.int p1), .val (.int tt), .val (.int (tt % (8 : Int32))), .val (.int (tt / (8 : Int32))), .val (.int (1 : Int32)), .unset] [(.int (1 : Int32))]))
              refine Good.back (fun _ k => XS.istore X105.here hx rfl (hb hby at_108) rfl (l' := #[.val (.long q0), .second, .val (.int p1), .val (.int tt), .val (.int (tt % (8 : Int32))), .val (.int (tt / (8 : Int32))), .val (.int (1 : Int32)), .val (.int (1 : Int32))]) rfl k) ?_
              show Good p e below _ (T105.setTop (mkF m 110 #[.val (.long q0), .second, .val (.int p1), .val (.int tt), .val (.int (tt % (8 : Int32))), .val (.int (tt / (8 : Int32))), .val (.int (1 : Int32)), .val (.int (1 : Int32))] []))
              refine Good.back (fun _ k => XS.iload X105.here hx rfl (hb hby at_110) rfl k) ?_
              show Good p e below _ (T105.setTop (mkF m 112 #[.val (.long q0), .second, .val (.int p1), .val (.int tt), .val (.int (tt % (8 : Int32))), .val (.int (tt / (8 : Int32))), .val (.int (1 : Int32)), .val (.int (1 : Int32))] [(.int (1 : Int32))]))
              refine Good.back (fun _ k => XS.iload X105.here hx rfl (hb hby at_112) rfl k) ?_
              show Good p e below _ (T105.setTop (mkF m 114 #[.val (.long q0), .second, .val (.int p1), .val (.int tt), .val (.int (tt % (8 : Int32))), .val (.int (tt / (8 : Int32))), .val (.int (1 : Int32)), .val (.int (1 : Int32))] [(.int (1 : Int32)), (.int (1 : Int32))]))
              refine Good.back (fun _ k => XS.icmpNo X105.here hx rfl (hb hby at_114) rfl (teq (by decide : ((1 : Int32) = (1 : Int32)))).2 k) ?_
              show Good p e below _ (T105.setTop (mkF m 117 #[.val (.long q0), .second, .val (.int p1), .val (.int tt), .val (.int (tt % (8 : Int32))), .val (.int (tt / (8 : Int32))), .val (.int (1 : Int32)), .val (.int (1 : Int32))] []))
              refine Good.back (fun _ k => XS.iconst X105.here hx rfl (hb hby at_117) k) ?_
              show Good p e below _ (T105.setTop (mkF m 118 #[.val (.long q0), .second, .val (.int p1), .val (.int tt), .val (.int (tt % (8 : Int32))), .val (.int (tt / (8 : Int32))), .val (.int (1 : Int32)), .val (.int (1 : Int32))] [(.int (1 : Int32))]))
              refine Good.back (fun _ k => XS.goto X105.here hx rfl (pc0 := 118) (pc' := 122) rfl (hb hby at_118) (by decide) (by decide) k) ?_
              show Good p e below _ (T105.setTop (mkF m 122 #[.val (.long q0), .second, .val (.int p1), .val (.int tt), .val (.int (tt % (8 : Int32))), .val (.int (tt / (8 : Int32))), .val (.int (1 : Int32)), .val (.int (1 : Int32))] [(.int (1 : Int32))]))
              obtain ⟨fs106, hr106, hrun106, hended106, hW106, hsame106⟩ := X105.leave (v := some (.int (1 : Int32))) (fun h => by rw [Bd.returns] at h; cases h)
              refine Good.done (retN X105 hx (t := .boolean) Bd.returns (by simp) (hb hby at_122) hr106) hrun106 hended106 ⟨_, _, rfl, ?_, ⟨_, rfl⟩, hW106, hsame106.mono (by decide) (by decide)⟩
              show Q0 Z q0 p1 h0 n0 _ T105.heap _
              rw [eh105]
              exact ⟨rfl, N105⟩
            · rw [if_neg hb80_104]
              show Good p e below _ (T103.setTop (mkF m 80 #[.val (.long q0), .second, .val (.int p1), .val (.int tt), .val (.int (tt % (8 : Int32))), .val (.int (tt / (8 : Int32))), .unset, .unset] [(.int (0 : Int32))]))
              refine Good.back (fun _ k => XS.ifYes X103.here hx rfl (pc0 := 80) (pc' := 87) rfl (hb hby at_80) rfl ((if0 _ _).trans (teq (by decide : ((0 : Int32) = (0 : Int32)))).1) (by decide) (by decide) k) ?_
              show Good p e below _ (T103.setTop (mkF m 87 #[.val (.long q0), .second, .val (.int p1), .val (.int tt), .val (.int (tt % (8 : Int32))), .val (.int (tt / (8 : Int32))), .unset, .unset] []))
              refine Good.back (fun _ k => XS.iconst X103.here hx rfl (hb hby at_87) k) ?_
              show Good p e below _ (T103.setTop (mkF m 88 #[.val (.long q0), .second, .val (.int p1), .val (.int tt), .val (.int (tt % (8 : Int32))), .val (.int (tt / (8 : Int32))), .unset, .unset] [(.int (0 : Int32))]))
              refine Good.back (fun _ k => XS.istore X103.here hx rfl (hb hby at_88) rfl (l' := #[.val (.long q0), .second, .val (.int p1), .val (.int tt), .val (.int (tt % (8 : Int32))), .val (.int (tt / (8 : Int32))), .val (.int (0 : Int32)), .unset]) rfl k) ?_
              show Good p e below _ (T103.setTop (mkF m 90 #[.val (.long q0), .second, .val (.int p1), .val (.int tt), .val (.int (tt % (8 : Int32))), .val (.int (tt / (8 : Int32))), .val (.int (0 : Int32)), .unset] []))
              refine Good.back (fun _ k => XS.lloadN X103.here hx rfl (hb hby at_90) rfl k) ?_
              show Good p e below _ (T103.setTop (mkF m 91 #[.val (.long q0), .second, .val (.int p1), .val (.int tt), .val (.int (tt % (8 : Int32))), .val (.int (tt / (8 : Int32))), .val (.int (0 : Int32)), .unset] [(.long q0)]))
              obtain ⟨_, _, ⟨T107, L107, k107, n107⟩, -, X107, ⟨Lc107, hQ107, l107, y107, z107⟩, st107⟩ := Jvm.LawKit.callS X103 hx (y := (⟨"com/example/trinode/trinode/troll/Board", "neighbours", "(J)J"⟩ : MethodName)) hown (mvT hZ (hw _ (List.mem_of_getElem? (i := 4) rfl))) (mvT hZ (hw _ (List.mem_of_getElem? (i := 5) rfl))) (mvT hZ (hw _ (List.mem_of_getElem? (i := 6) rfl))) (mvT hZ (hw _ (List.mem_of_getElem? (i := 7) rfl))) (by decide) (backOf (W := 0) (rm2 l Z a0 hw [] q0  h0 n0 Z0 ) hZ (hw _ (List.mem_of_getElem? (i := 7) rfl)) (hw _ (List.mem_of_getElem? (i := 6) rfl)) (by decide) (by decide)) (g := (mkF m 91 #[.val (.long q0), .second, .val (.int p1), .val (.int tt), .val (.int (tt % (8 : Int32))), .val (.int (tt / (8 : Int32))), .val (.int (0 : Int32)), .unset] [(.long q0)])) rfl (by rw [hml]; rfl) (argsL := [(.long q0)]) (rest := []) (lenOf own_pd37 rfl) rfl (by show 2 * 0 + _ ≤ _; exact Nat.le_of_eq rfl) (hb hby at_91) (fun _ _ => ⟨rfl, eh103, (by decide : 0 + 0 ≤ _), (by decide : 0 + 0 ≤ _)⟩)
              dsimp only [Pt.U, Pt.locs, Pt.cells, Pt.slots] at X107 l107 y107 z107 st107 hQ107
              subst l107 y107 z107
              obtain ⟨rfl, N107q, eh107⟩ := hQ107
              have N107 := Fr.app N103 N107q
              refine Good.back st107 ?_
              show Good p e below _ (T107.setTop (mkF m 94 #[.val (.long q0), .second, .val (.int p1), .val (.int tt), .val (.int (tt % (8 : Int32))), .val (.int (tt / (8 : Int32))), .val (.int (0 : Int32)), .unset] [(.long (own_nb q0))]))
              refine Good.back (fun _ k => XS.iloadN X107.here hx rfl (hb hby at_94) rfl k) ?_
              show Good p e below _ (T107.setTop (mkF m 95 #[.val (.long q0), .second, .val (.int p1), .val (.int tt), .val (.int (tt % (8 : Int32))), .val (.int (tt / (8 : Int32))), .val (.int (0 : Int32)), .unset] [(.int tt), (.long (own_nb q0))]))
              refine Good.back (fun _ k => XS.lushr X107.here hx rfl (hb hby at_95) rfl k) ?_
              show Good p e below _ (T107.setTop (mkF m 96 #[.val (.long q0), .second, .val (.int p1), .val (.int tt), .val (.int (tt % (8 : Int32))), .val (.int (tt / (8 : Int32))), .val (.int (0 : Int32)), .unset] [(.long (((own_nb q0).toUInt64 >>> (tt &&& 0x3f).toInt64.toUInt64).toInt64))]))
              refine Good.back (fun _ k => XS.lconst X107.here hx rfl (hb hby at_96) k) ?_
              show Good p e below _ (T107.setTop (mkF m 97 #[.val (.long q0), .second, .val (.int p1), .val (.int tt), .val (.int (tt % (8 : Int32))), .val (.int (tt / (8 : Int32))), .val (.int (0 : Int32)), .unset] [(.long (1 : Int64)), (.long (((own_nb q0).toUInt64 >>> (tt &&& 0x3f).toInt64.toUInt64).toInt64))]))
              refine Good.back (fun _ k => XS.land X107.here hx rfl (hb hby at_97) rfl k) ?_
              show Good p e below _ (T107.setTop (mkF m 98 #[.val (.long q0), .second, .val (.int p1), .val (.int tt), .val (.int (tt % (8 : Int32))), .val (.int (tt / (8 : Int32))), .val (.int (0 : Int32)), .unset] [(.long ((((own_nb q0).toUInt64 >>> (tt &&& 0x3f).toInt64.toUInt64).toInt64) &&& (1 : Int64)))]))
              refine Good.back (fun _ k => XS.lconst X107.here hx rfl (hb hby at_98) k) ?_
              show Good p e below _ (T107.setTop (mkF m 99 #[.val (.long q0), .second, .val (.int p1), .val (.int tt), .val (.int (tt % (8 : Int32))), .val (.int (tt / (8 : Int32))), .val (.int (0 : Int32)), .unset] [(.long (0 : Int64)), (.long ((((own_nb q0).toUInt64 >>> (tt &&& 0x3f).toInt64.toUInt64).toInt64) &&& (1 : Int64)))]))
              refine Good.back (fun _ k => XS.lcmp X107.here hx rfl (hb hby at_99) rfl k) ?_
              show Good p e below _ (T107.setTop (mkF m 100 #[.val (.long q0), .second, .val (.int p1), .val (.int tt), .val (.int (tt % (8 : Int32))), .val (.int (tt / (8 : Int32))), .val (.int (0 : Int32)), .unset] [(.int (lcmpW ((((own_nb q0).toUInt64 >>> (tt &&& 0x3f).toInt64.toUInt64).toInt64) &&& (1 : Int64)) (0 : Int64)))]))
              have hno108 : ¬ own_has (own_nb q0) tt := fun y => by
                rcases (own_law q0 tt t0 t1).mp y with x | x | x | x
                · exact hc19_1 x.1
                · exact hc36_65 x.1
                · exact hb62_99 x.2
                · exact hb80_104 x.2
              refine Good.back (fun _ k => XS.ifYes X107.here hx rfl (pc0 := 100) (pc' := 107) rfl (hb hby at_100) rfl ((if0 _ _).trans (teq ((lw_eq _ _).mpr (Classical.byContradiction fun y => hno108 y) : (lcmpW ((((own_nb q0).toUInt64 >>> (tt &&& 0x3f).toInt64.toUInt64).toInt64) &&& (1 : Int64)) (0 : Int64)) = (0 : Int32))).1) (by decide) (by decide) k) ?_
              show Good p e below _ (T107.setTop (mkF m 107 #[.val (.long q0), .second, .val (.int p1), .val (.int tt), .val (.int (tt % (8 : Int32))), .val (.int (tt / (8 : Int32))), .val (.int (0 : Int32)), .unset] []))
              refine Good.back (fun _ k => XS.iconst X107.here hx rfl (hb hby at_107) k) ?_
              show Good p e below _ (T107.setTop (mkF m 108 #[.val (.long q0), .second, .val (.int p1), .val (.int tt), .val (.int (tt % (8 : Int32))), .val (.int (tt / (8 : Int32))), .val (.int (0 : Int32)), .unset] [(.int (0 : Int32))]))
              refine Good.back (fun _ k => XS.istore X107.here hx rfl (hb hby at_108) rfl (l' := #[.val (.long q0), .second, .val (.int p1), .val (.int tt), .val (.int (tt % (8 : Int32))), .val (.int (tt / (8 : Int32))), .val (.int (0 : Int32)), .val (.int (0 : Int32))]) rfl k) ?_
              show Good p e below _ (T107.setTop (mkF m 110 #[.val (.long q0), .second, .val (.int p1), .val (.int tt), .val (.int (tt % (8 : Int32))), .val (.int (tt / (8 : Int32))), .val (.int (0 : Int32)), .val (.int (0 : Int32))] []))
              refine Good.back (fun _ k => XS.iload X107.here hx rfl (hb hby at_110) rfl k) ?_
              show Good p e below _ (T107.setTop (mkF m 112 #[.val (.long q0), .second, .val (.int p1), .val (.int tt), .val (.int (tt % (8 : Int32))), .val (.int (tt / (8 : Int32))), .val (.int (0 : Int32)), .val (.int (0 : Int32))] [(.int (0 : Int32))]))
              refine Good.back (fun _ k => XS.iload X107.here hx rfl (hb hby at_112) rfl k) ?_
              show Good p e below _ (T107.setTop (mkF m 114 #[.val (.long q0), .second, .val (.int p1), .val (.int tt), .val (.int (tt % (8 : Int32))), .val (.int (tt / (8 : Int32))), .val (.int (0 : Int32)), .val (.int (0 : Int32))] [(.int (0 : Int32)), (.int (0 : Int32))]))
              refine Good.back (fun _ k => XS.icmpNo X107.here hx rfl (hb hby at_114) rfl (teq (by decide : ((0 : Int32) = (0 : Int32)))).2 k) ?_
              show Good p e below _ (T107.setTop (mkF m 117 #[.val (.long q0), .second, .val (.int p1), .val (.int tt), .val (.int (tt % (8 : Int32))), .val (.int (tt / (8 : Int32))), .val (.int (0 : Int32)), .val (.int (0 : Int32))] []))
              refine Good.back (fun _ k => XS.iconst X107.here hx rfl (hb hby at_117) k) ?_
              show Good p e below _ (T107.setTop (mkF m 118 #[.val (.long q0), .second, .val (.int p1), .val (.int tt), .val (.int (tt % (8 : Int32))), .val (.int (tt / (8 : Int32))), .val (.int (0 : Int32)), .val (.int (0 : Int32))] [(.int (1 : Int32))]))
              refine Good.back (fun _ k => XS.goto X107.here hx rfl (pc0 := 118) (pc' := 122) rfl (hb hby at_118) (by decide) (by decide) k) ?_
              show Good p e below _ (T107.setTop (mkF m 122 #[.val (.long q0), .second, .val (.int p1), .val (.int tt), .val (.int (tt % (8 : Int32))), .val (.int (tt / (8 : Int32))), .val (.int (0 : Int32)), .val (.int (0 : Int32))] [(.int (1 : Int32))]))
              obtain ⟨fs109, hr109, hrun109, hended109, hW109, hsame109⟩ := X107.leave (v := some (.int (1 : Int32))) (fun h => by rw [Bd.returns] at h; cases h)
              refine Good.done (retN X107 hx (t := .boolean) Bd.returns (by simp) (hb hby at_122) hr109) hrun109 hended109 ⟨_, _, rfl, ?_, ⟨_, rfl⟩, hW109, hsame109.mono (by decide) (by decide)⟩
              show Q0 Z q0 p1 h0 n0 _ T107.heap _
              rw [eh107]
              exact ⟨rfl, N107⟩
          · refine Good.back (fun _ k => XS.icmpYes X98.here hx rfl (pc0 := 69) (pc' := 87) rfl (hb hby at_69) rfl (flt hc69_102).2.1 (by decide) (by decide) k) ?_
            show Good p e below _ (T98.setTop (mkF m 87 #[.val (.long q0), .second, .val (.int p1), .val (.int tt), .val (.int (tt % (8 : Int32))), .val (.int (tt / (8 : Int32))), .unset, .unset] []))
            refine Good.back (fun _ k => XS.iconst X98.here hx rfl (hb hby at_87) k) ?_
            show Good p e below _ (T98.setTop (mkF m 88 #[.val (.long q0), .second, .val (.int p1), .val (.int tt), .val (.int (tt % (8 : Int32))), .val (.int (tt / (8 : Int32))), .unset, .unset] [(.int (0 : Int32))]))
            refine Good.back (fun _ k => XS.istore X98.here hx rfl (hb hby at_88) rfl (l' := #[.val (.long q0), .second, .val (.int p1), .val (.int tt), .val (.int (tt % (8 : Int32))), .val (.int (tt / (8 : Int32))), .val (.int (0 : Int32)), .unset]) rfl k) ?_
            show Good p e below _ (T98.setTop (mkF m 90 #[.val (.long q0), .second, .val (.int p1), .val (.int tt), .val (.int (tt % (8 : Int32))), .val (.int (tt / (8 : Int32))), .val (.int (0 : Int32)), .unset] []))
            refine Good.back (fun _ k => XS.lloadN X98.here hx rfl (hb hby at_90) rfl k) ?_
            show Good p e below _ (T98.setTop (mkF m 91 #[.val (.long q0), .second, .val (.int p1), .val (.int tt), .val (.int (tt % (8 : Int32))), .val (.int (tt / (8 : Int32))), .val (.int (0 : Int32)), .unset] [(.long q0)]))
            obtain ⟨_, _, ⟨T110, L110, k110, n110⟩, -, X110, ⟨Lc110, hQ110, l110, y110, z110⟩, st110⟩ := Jvm.LawKit.callS X98 hx (y := (⟨"com/example/trinode/trinode/troll/Board", "neighbours", "(J)J"⟩ : MethodName)) hown (mvT hZ (hw _ (List.mem_of_getElem? (i := 4) rfl))) (mvT hZ (hw _ (List.mem_of_getElem? (i := 5) rfl))) (mvT hZ (hw _ (List.mem_of_getElem? (i := 6) rfl))) (mvT hZ (hw _ (List.mem_of_getElem? (i := 7) rfl))) (by decide) (backOf (W := 0) (rm2 l Z a0 hw [] q0  h0 n0 Z0 ) hZ (hw _ (List.mem_of_getElem? (i := 7) rfl)) (hw _ (List.mem_of_getElem? (i := 6) rfl)) (by decide) (by decide)) (g := (mkF m 91 #[.val (.long q0), .second, .val (.int p1), .val (.int tt), .val (.int (tt % (8 : Int32))), .val (.int (tt / (8 : Int32))), .val (.int (0 : Int32)), .unset] [(.long q0)])) rfl (by rw [hml]; rfl) (argsL := [(.long q0)]) (rest := []) (lenOf own_pd37 rfl) rfl (by show 2 * 0 + _ ≤ _; exact Nat.le_of_eq rfl) (hb hby at_91) (fun _ _ => ⟨rfl, eh98, (by decide : 0 + 0 ≤ _), (by decide : 0 + 0 ≤ _)⟩)
            dsimp only [Pt.U, Pt.locs, Pt.cells, Pt.slots] at X110 l110 y110 z110 st110 hQ110
            subst l110 y110 z110
            obtain ⟨rfl, N110q, eh110⟩ := hQ110
            have N110 := Fr.app N98 N110q
            refine Good.back st110 ?_
            show Good p e below _ (T110.setTop (mkF m 94 #[.val (.long q0), .second, .val (.int p1), .val (.int tt), .val (.int (tt % (8 : Int32))), .val (.int (tt / (8 : Int32))), .val (.int (0 : Int32)), .unset] [(.long (own_nb q0))]))
            refine Good.back (fun _ k => XS.iloadN X110.here hx rfl (hb hby at_94) rfl k) ?_
            show Good p e below _ (T110.setTop (mkF m 95 #[.val (.long q0), .second, .val (.int p1), .val (.int tt), .val (.int (tt % (8 : Int32))), .val (.int (tt / (8 : Int32))), .val (.int (0 : Int32)), .unset] [(.int tt), (.long (own_nb q0))]))
            refine Good.back (fun _ k => XS.lushr X110.here hx rfl (hb hby at_95) rfl k) ?_
            show Good p e below _ (T110.setTop (mkF m 96 #[.val (.long q0), .second, .val (.int p1), .val (.int tt), .val (.int (tt % (8 : Int32))), .val (.int (tt / (8 : Int32))), .val (.int (0 : Int32)), .unset] [(.long (((own_nb q0).toUInt64 >>> (tt &&& 0x3f).toInt64.toUInt64).toInt64))]))
            refine Good.back (fun _ k => XS.lconst X110.here hx rfl (hb hby at_96) k) ?_
            show Good p e below _ (T110.setTop (mkF m 97 #[.val (.long q0), .second, .val (.int p1), .val (.int tt), .val (.int (tt % (8 : Int32))), .val (.int (tt / (8 : Int32))), .val (.int (0 : Int32)), .unset] [(.long (1 : Int64)), (.long (((own_nb q0).toUInt64 >>> (tt &&& 0x3f).toInt64.toUInt64).toInt64))]))
            refine Good.back (fun _ k => XS.land X110.here hx rfl (hb hby at_97) rfl k) ?_
            show Good p e below _ (T110.setTop (mkF m 98 #[.val (.long q0), .second, .val (.int p1), .val (.int tt), .val (.int (tt % (8 : Int32))), .val (.int (tt / (8 : Int32))), .val (.int (0 : Int32)), .unset] [(.long ((((own_nb q0).toUInt64 >>> (tt &&& 0x3f).toInt64.toUInt64).toInt64) &&& (1 : Int64)))]))
            refine Good.back (fun _ k => XS.lconst X110.here hx rfl (hb hby at_98) k) ?_
            show Good p e below _ (T110.setTop (mkF m 99 #[.val (.long q0), .second, .val (.int p1), .val (.int tt), .val (.int (tt % (8 : Int32))), .val (.int (tt / (8 : Int32))), .val (.int (0 : Int32)), .unset] [(.long (0 : Int64)), (.long ((((own_nb q0).toUInt64 >>> (tt &&& 0x3f).toInt64.toUInt64).toInt64) &&& (1 : Int64)))]))
            refine Good.back (fun _ k => XS.lcmp X110.here hx rfl (hb hby at_99) rfl k) ?_
            show Good p e below _ (T110.setTop (mkF m 100 #[.val (.long q0), .second, .val (.int p1), .val (.int tt), .val (.int (tt % (8 : Int32))), .val (.int (tt / (8 : Int32))), .val (.int (0 : Int32)), .unset] [(.int (lcmpW ((((own_nb q0).toUInt64 >>> (tt &&& 0x3f).toInt64.toUInt64).toInt64) &&& (1 : Int64)) (0 : Int64)))]))
            have hno111 : ¬ own_has (own_nb q0) tt := fun y => by
              rcases (own_law q0 tt t0 t1).mp y with x | x | x | x
              · exact hc19_1 x.1
              · exact hc36_65 x.1
              · exact hb62_99 x.2
              · exact hc69_102 x.1
            refine Good.back (fun _ k => XS.ifYes X110.here hx rfl (pc0 := 100) (pc' := 107) rfl (hb hby at_100) rfl ((if0 _ _).trans (teq ((lw_eq _ _).mpr (Classical.byContradiction fun y => hno111 y) : (lcmpW ((((own_nb q0).toUInt64 >>> (tt &&& 0x3f).toInt64.toUInt64).toInt64) &&& (1 : Int64)) (0 : Int64)) = (0 : Int32))).1) (by decide) (by decide) k) ?_
            show Good p e below _ (T110.setTop (mkF m 107 #[.val (.long q0), .second, .val (.int p1), .val (.int tt), .val (.int (tt % (8 : Int32))), .val (.int (tt / (8 : Int32))), .val (.int (0 : Int32)), .unset] []))
            refine Good.back (fun _ k => XS.iconst X110.here hx rfl (hb hby at_107) k) ?_
            show Good p e below _ (T110.setTop (mkF m 108 #[.val (.long q0), .second, .val (.int p1), .val (.int tt), .val (.int (tt % (8 : Int32))), .val (.int (tt / (8 : Int32))), .val (.int (0 : Int32)), .unset] [(.int (0 : Int32))]))
            refine Good.back (fun _ k => XS.istore X110.here hx rfl (hb hby at_108) rfl (l' := #[.val (.long q0), .second, .val (.int p1), .val (.int tt), .val (.int (tt % (8 : Int32))), .val (.int (tt / (8 : Int32))), .val (.int (0 : Int32)), .val (.int (0 : Int32))]) rfl k) ?_
            show Good p e below _ (T110.setTop (mkF m 110 #[.val (.long q0), .second, .val (.int p1), .val (.int tt), .val (.int (tt % (8 : Int32))), .val (.int (tt / (8 : Int32))), .val (.int (0 : Int32)), .val (.int (0 : Int32))] []))
            refine Good.back (fun _ k => XS.iload X110.here hx rfl (hb hby at_110) rfl k) ?_
            show Good p e below _ (T110.setTop (mkF m 112 #[.val (.long q0), .second, .val (.int p1), .val (.int tt), .val (.int (tt % (8 : Int32))), .val (.int (tt / (8 : Int32))), .val (.int (0 : Int32)), .val (.int (0 : Int32))] [(.int (0 : Int32))]))
            refine Good.back (fun _ k => XS.iload X110.here hx rfl (hb hby at_112) rfl k) ?_
            show Good p e below _ (T110.setTop (mkF m 114 #[.val (.long q0), .second, .val (.int p1), .val (.int tt), .val (.int (tt % (8 : Int32))), .val (.int (tt / (8 : Int32))), .val (.int (0 : Int32)), .val (.int (0 : Int32))] [(.int (0 : Int32)), (.int (0 : Int32))]))
            refine Good.back (fun _ k => XS.icmpNo X110.here hx rfl (hb hby at_114) rfl (teq (by decide : ((0 : Int32) = (0 : Int32)))).2 k) ?_
            show Good p e below _ (T110.setTop (mkF m 117 #[.val (.long q0), .second, .val (.int p1), .val (.int tt), .val (.int (tt % (8 : Int32))), .val (.int (tt / (8 : Int32))), .val (.int (0 : Int32)), .val (.int (0 : Int32))] []))
            refine Good.back (fun _ k => XS.iconst X110.here hx rfl (hb hby at_117) k) ?_
            show Good p e below _ (T110.setTop (mkF m 118 #[.val (.long q0), .second, .val (.int p1), .val (.int tt), .val (.int (tt % (8 : Int32))), .val (.int (tt / (8 : Int32))), .val (.int (0 : Int32)), .val (.int (0 : Int32))] [(.int (1 : Int32))]))
            refine Good.back (fun _ k => XS.goto X110.here hx rfl (pc0 := 118) (pc' := 122) rfl (hb hby at_118) (by decide) (by decide) k) ?_
            show Good p e below _ (T110.setTop (mkF m 122 #[.val (.long q0), .second, .val (.int p1), .val (.int tt), .val (.int (tt % (8 : Int32))), .val (.int (tt / (8 : Int32))), .val (.int (0 : Int32)), .val (.int (0 : Int32))] [(.int (1 : Int32))]))
            obtain ⟨fs112, hr112, hrun112, hended112, hW112, hsame112⟩ := X110.leave (v := some (.int (1 : Int32))) (fun h => by rw [Bd.returns] at h; cases h)
            refine Good.done (retN X110 hx (t := .boolean) Bd.returns (by simp) (hb hby at_122) hr112) hrun112 hended112 ⟨_, _, rfl, ?_, ⟨_, rfl⟩, hW112, hsame112.mono (by decide) (by decide)⟩
            show Q0 Z q0 p1 h0 n0 _ T110.heap _
            rw [eh110]
            exact ⟨rfl, N110⟩
      · refine Good.back (fun _ k => XS.ifYes X0.here hx rfl (pc0 := 51) (pc' := 65) rfl (hb hby at_51) rfl ((if0 _ _).trans (flt hc51_97).2.2.2) (by decide) (by decide) k) ?_
        show Good p e below _ (s₁.setTop (mkF m 65 #[.val (.long q0), .second, .val (.int p1), .val (.int tt), .val (.int (tt % (8 : Int32))), .val (.int (tt / (8 : Int32))), .unset, .unset] []))
        refine Good.back (fun _ k => XS.iload X0.here hx rfl (hb hby at_65) rfl k) ?_
        show Good p e below _ (s₁.setTop (mkF m 67 #[.val (.long q0), .second, .val (.int p1), .val (.int tt), .val (.int (tt % (8 : Int32))), .val (.int (tt / (8 : Int32))), .unset, .unset] [(.int (tt / (8 : Int32)))]))
        refine Good.back (fun _ k => XS.bipush X0.here hx rfl (hb hby at_67) k) ?_
        show Good p e below _ (s₁.setTop (mkF m 69 #[.val (.long q0), .second, .val (.int p1), .val (.int tt), .val (.int (tt % (8 : Int32))), .val (.int (tt / (8 : Int32))), .unset, .unset] [(.int (7 : Int32)), (.int (tt / (8 : Int32)))]))
        by_cases hc69_113 : (tt / (8 : Int32)) < (7 : Int32)
        · refine Good.back (fun _ k => XS.icmpNo X0.here hx rfl (hb hby at_69) rfl (tlt hc69_113).2.1 k) ?_
          show Good p e below _ (s₁.setTop (mkF m 72 #[.val (.long q0), .second, .val (.int p1), .val (.int tt), .val (.int (tt % (8 : Int32))), .val (.int (tt / (8 : Int32))), .unset, .unset] []))
          refine Good.back (fun _ k => XS.lloadN X0.here hx rfl (hb hby at_72) rfl k) ?_
          show Good p e below _ (s₁.setTop (mkF m 73 #[.val (.long q0), .second, .val (.int p1), .val (.int tt), .val (.int (tt % (8 : Int32))), .val (.int (tt / (8 : Int32))), .unset, .unset] [(.long q0)]))
          refine Good.back (fun _ k => XS.iloadN X0.here hx rfl (hb hby at_73) rfl k) ?_
          show Good p e below _ (s₁.setTop (mkF m 74 #[.val (.long q0), .second, .val (.int p1), .val (.int tt), .val (.int (tt % (8 : Int32))), .val (.int (tt / (8 : Int32))), .unset, .unset] [(.int tt), (.long q0)]))
          refine Good.back (fun _ k => XS.bipush X0.here hx rfl (hb hby at_74) k) ?_
          show Good p e below _ (s₁.setTop (mkF m 76 #[.val (.long q0), .second, .val (.int p1), .val (.int tt), .val (.int (tt % (8 : Int32))), .val (.int (tt / (8 : Int32))), .unset, .unset] [(.int (8 : Int32)), (.int tt), (.long q0)]))
          refine Good.back (fun _ k => XS.iadd X0.here hx rfl (hb hby at_76) rfl k) ?_
          show Good p e below _ (s₁.setTop (mkF m 77 #[.val (.long q0), .second, .val (.int p1), .val (.int tt), .val (.int (tt % (8 : Int32))), .val (.int (tt / (8 : Int32))), .unset, .unset] [(.int (tt + (8 : Int32))), (.long q0)]))
          obtain ⟨_, _, ⟨T114, L114, k114, n114⟩, -, X114, ⟨Lc114, hQ114, l114, y114, z114⟩, st114⟩ := Jvm.LawKit.callS X0 hx (y := (⟨"com/example/trinode/trinode/troll/BoardNeighboursPinLaw", "has", "(JI)Z"⟩ : MethodName)) hown (mvT hZ (hw _ (List.mem_of_getElem? (i := 0) rfl))) (mvT hZ (hw _ (List.mem_of_getElem? (i := 1) rfl))) (mvT hZ (hw _ (List.mem_of_getElem? (i := 2) rfl))) (mvT hZ (hw _ (List.mem_of_getElem? (i := 3) rfl))) (by decide) (backOf (W := 0) (rm1 l Z a0 hw [] q0 (tt + (8 : Int32))  h0 n0 Z0 ) hZ (hw _ (List.mem_of_getElem? (i := 3) rfl)) (hw _ (List.mem_of_getElem? (i := 2) rfl)) (by decide) (by decide)) (g := (mkF m 77 #[.val (.long q0), .second, .val (.int p1), .val (.int tt), .val (.int (tt % (8 : Int32))), .val (.int (tt / (8 : Int32))), .unset, .unset] [(.int (tt + (8 : Int32))), (.long q0)])) rfl (by rw [hml]; rfl) (argsL := [(.long q0), (.int (tt + (8 : Int32)))]) (rest := []) (lenOf own_pd36 rfl) rfl (by show 2 * 0 + _ ≤ _; exact Nat.le_of_eq rfl) (hb hby at_77) (fun _ _ => ⟨rfl, e0, (by decide : 0 + 0 ≤ _), (by decide : 0 + 0 ≤ _)⟩)
          dsimp only [Pt.U, Pt.locs, Pt.cells, Pt.slots] at X114 l114 y114 z114 st114 hQ114
          subst l114 y114 z114
          obtain ⟨rfl, N114q, eh114⟩ := hQ114
          have N114 := Fr.app N0 N114q
          refine Good.back st114 ?_
          show Good p e below _ (T114.setTop (mkF m 80 #[.val (.long q0), .second, .val (.int p1), .val (.int tt), .val (.int (tt % (8 : Int32))), .val (.int (tt / (8 : Int32))), .unset, .unset] [(.int (if own_has q0 (tt + (8 : Int32)) then (1 : Int32) else (0 : Int32)))]))
          by_cases hb80_115 : own_has q0 (tt + (8 : Int32))
          · rw [if_pos hb80_115]
            show Good p e below _ (T114.setTop (mkF m 80 #[.val (.long q0), .second, .val (.int p1), .val (.int tt), .val (.int (tt % (8 : Int32))), .val (.int (tt / (8 : Int32))), .unset, .unset] [(.int (1 : Int32))]))
            refine Good.back (fun _ k => XS.ifNo X114.here hx rfl (hb hby at_80) rfl ((if0 _ _).trans (feq (by decide : ¬ ((1 : Int32) = (0 : Int32)))).1) k) ?_
            show Good p e below _ (T114.setTop (mkF m 83 #[.val (.long q0), .second, .val (.int p1), .val (.int tt), .val (.int (tt % (8 : Int32))), .val (.int (tt / (8 : Int32))), .unset, .unset] []))
            refine Good.back (fun _ k => XS.iconst X114.here hx rfl (hb hby at_83) k) ?_
            show Good p e below _ (T114.setTop (mkF m 84 #[.val (.long q0), .second, .val (.int p1), .val (.int tt), .val (.int (tt % (8 : Int32))), .val (.int (tt / (8 : Int32))), .unset, .unset] [(.int (1 : Int32))]))
            refine Good.back (fun _ k => XS.goto X114.here hx rfl (pc0 := 84) (pc' := 88) rfl (hb hby at_84) (by decide) (by decide) k) ?_
            show Good p e below _ (T114.setTop (mkF m 88 #[.val (.long q0), .second, .val (.int p1), .val (.int tt), .val (.int (tt % (8 : Int32))), .val (.int (tt / (8 : Int32))), .unset, .unset] [(.int (1 : Int32))]))
            refine Good.back (fun _ k => XS.istore X114.here hx rfl (hb hby at_88) rfl (l' := #[.val (.long q0), .second, .val (.int p1), .val (.int tt), .val (.int (tt % (8 : Int32))), .val (.int (tt / (8 : Int32))), .val (.int (1 : Int32)), .unset]) rfl k) ?_
            show Good p e below _ (T114.setTop (mkF m 90 #[.val (.long q0), .second, .val (.int p1), .val (.int tt), .val (.int (tt % (8 : Int32))), .val (.int (tt / (8 : Int32))), .val (.int (1 : Int32)), .unset] []))
            refine Good.back (fun _ k => XS.lloadN X114.here hx rfl (hb hby at_90) rfl k) ?_
            show Good p e below _ (T114.setTop (mkF m 91 #[.val (.long q0), .second, .val (.int p1), .val (.int tt), .val (.int (tt % (8 : Int32))), .val (.int (tt / (8 : Int32))), .val (.int (1 : Int32)), .unset] [(.long q0)]))
            obtain ⟨_, _, ⟨T116, L116, k116, n116⟩, -, X116, ⟨Lc116, hQ116, l116, y116, z116⟩, st116⟩ := Jvm.LawKit.callS X114 hx (y := (⟨"com/example/trinode/trinode/troll/Board", "neighbours", "(J)J"⟩ : MethodName)) hown (mvT hZ (hw _ (List.mem_of_getElem? (i := 4) rfl))) (mvT hZ (hw _ (List.mem_of_getElem? (i := 5) rfl))) (mvT hZ (hw _ (List.mem_of_getElem? (i := 6) rfl))) (mvT hZ (hw _ (List.mem_of_getElem? (i := 7) rfl))) (by decide) (backOf (W := 0) (rm2 l Z a0 hw [] q0  h0 n0 Z0 ) hZ (hw _ (List.mem_of_getElem? (i := 7) rfl)) (hw _ (List.mem_of_getElem? (i := 6) rfl)) (by decide) (by decide)) (g := (mkF m 91 #[.val (.long q0), .second, .val (.int p1), .val (.int tt), .val (.int (tt % (8 : Int32))), .val (.int (tt / (8 : Int32))), .val (.int (1 : Int32)), .unset] [(.long q0)])) rfl (by rw [hml]; rfl) (argsL := [(.long q0)]) (rest := []) (lenOf own_pd37 rfl) rfl (by show 2 * 0 + _ ≤ _; exact Nat.le_of_eq rfl) (hb hby at_91) (fun _ _ => ⟨rfl, eh114, (by decide : 0 + 0 ≤ _), (by decide : 0 + 0 ≤ _)⟩)
            dsimp only [Pt.U, Pt.locs, Pt.cells, Pt.slots] at X116 l116 y116 z116 st116 hQ116
            subst l116 y116 z116
            obtain ⟨rfl, N116q, eh116⟩ := hQ116
            have N116 := Fr.app N114 N116q
            refine Good.back st116 ?_
            show Good p e below _ (T116.setTop (mkF m 94 #[.val (.long q0), .second, .val (.int p1), .val (.int tt), .val (.int (tt % (8 : Int32))), .val (.int (tt / (8 : Int32))), .val (.int (1 : Int32)), .unset] [(.long (own_nb q0))]))
            refine Good.back (fun _ k => XS.iloadN X116.here hx rfl (hb hby at_94) rfl k) ?_
            show Good p e below _ (T116.setTop (mkF m 95 #[.val (.long q0), .second, .val (.int p1), .val (.int tt), .val (.int (tt % (8 : Int32))), .val (.int (tt / (8 : Int32))), .val (.int (1 : Int32)), .unset] [(.int tt), (.long (own_nb q0))]))
            refine Good.back (fun _ k => XS.lushr X116.here hx rfl (hb hby at_95) rfl k) ?_
            show Good p e below _ (T116.setTop (mkF m 96 #[.val (.long q0), .second, .val (.int p1), .val (.int tt), .val (.int (tt % (8 : Int32))), .val (.int (tt / (8 : Int32))), .val (.int (1 : Int32)), .unset] [(.long (((own_nb q0).toUInt64 >>> (tt &&& 0x3f).toInt64.toUInt64).toInt64))]))
            refine Good.back (fun _ k => XS.lconst X116.here hx rfl (hb hby at_96) k) ?_
            show Good p e below _ (T116.setTop (mkF m 97 #[.val (.long q0), .second, .val (.int p1), .val (.int tt), .val (.int (tt % (8 : Int32))), .val (.int (tt / (8 : Int32))), .val (.int (1 : Int32)), .unset] [(.long (1 : Int64)), (.long (((own_nb q0).toUInt64 >>> (tt &&& 0x3f).toInt64.toUInt64).toInt64))]))
            refine Good.back (fun _ k => XS.land X116.here hx rfl (hb hby at_97) rfl k) ?_
            show Good p e below _ (T116.setTop (mkF m 98 #[.val (.long q0), .second, .val (.int p1), .val (.int tt), .val (.int (tt % (8 : Int32))), .val (.int (tt / (8 : Int32))), .val (.int (1 : Int32)), .unset] [(.long ((((own_nb q0).toUInt64 >>> (tt &&& 0x3f).toInt64.toUInt64).toInt64) &&& (1 : Int64)))]))
            refine Good.back (fun _ k => XS.lconst X116.here hx rfl (hb hby at_98) k) ?_
            show Good p e below _ (T116.setTop (mkF m 99 #[.val (.long q0), .second, .val (.int p1), .val (.int tt), .val (.int (tt % (8 : Int32))), .val (.int (tt / (8 : Int32))), .val (.int (1 : Int32)), .unset] [(.long (0 : Int64)), (.long ((((own_nb q0).toUInt64 >>> (tt &&& 0x3f).toInt64.toUInt64).toInt64) &&& (1 : Int64)))]))
            refine Good.back (fun _ k => XS.lcmp X116.here hx rfl (hb hby at_99) rfl k) ?_
            show Good p e below _ (T116.setTop (mkF m 100 #[.val (.long q0), .second, .val (.int p1), .val (.int tt), .val (.int (tt % (8 : Int32))), .val (.int (tt / (8 : Int32))), .val (.int (1 : Int32)), .unset] [(.int (lcmpW ((((own_nb q0).toUInt64 >>> (tt &&& 0x3f).toInt64.toUInt64).toInt64) &&& (1 : Int64)) (0 : Int64)))]))
            refine Good.back (fun _ k => XS.ifNo X116.here hx rfl (hb hby at_100) rfl ((if0 _ _).trans (feq (fun q => ((own_law q0 tt t0 t1).mpr (Or.inr (Or.inr (Or.inr (⟨hc69_113, hb80_115⟩))))) ((lw_eq _ _).mp q))).1) k) ?_
            show Good p e below _ (T116.setTop (mkF m 103 #[.val (.long q0), .second, .val (.int p1), .val (.int tt), .val (.int (tt % (8 : Int32))), .val (.int (tt / (8 : Int32))), .val (.int (1 : Int32)), .unset] []))
            refine Good.back (fun _ k => XS.iconst X116.here hx rfl (hb hby at_103) k) ?_
            show Good p e below _ (T116.setTop (mkF m 104 #[.val (.long q0), .second, .val (.int p1), .val (.int tt), .val (.int (tt % (8 : Int32))), .val (.int (tt / (8 : Int32))), .val (.int (1 : Int32)), .unset] [(.int (1 : Int32))]))
            refine Good.back (fun _ k => XS.goto X116.here hx rfl (pc0 := 104) (pc' := 108) rfl (hb hby at_104) (by decide) (by decide) k) ?_
            show Good p e below _ (T116.setTop (mkF m 108 #[.val (.long q0), .second, .val (.int p1), .val (.int tt), .val (.int (tt % (8 : Int32))), .val (.int (tt / (8 : Int32))), .val (.int (1 : Int32)), .unset] [(.int (1 : Int32))]))
            refine Good.back (fun _ k => XS.istore X116.here hx rfl (hb hby at_108) rfl (l' := #[.val (.long q0), .second, .val (.int p1), .val (.int tt), .val (.int (tt % (8 : Int32))), .val (.int (tt / (8 : Int32))), .val (.int (1 : Int32)), .val (.int (1 : Int32))]) rfl k) ?_
            show Good p e below _ (T116.setTop (mkF m 110 #[.val (.long q0), .second, .val (.int p1), .val (.int tt), .val (.int (tt % (8 : Int32))), .val (.int (tt / (8 : Int32))), .val (.int (1 : Int32)), .val (.int (1 : Int32))] []))
            refine Good.back (fun _ k => XS.iload X116.here hx rfl (hb hby at_110) rfl k) ?_
            show Good p e below _ (T116.setTop (mkF m 112 #[.val (.long q0), .second, .val (.int p1), .val (.int tt), .val (.int (tt % (8 : Int32))), .val (.int (tt / (8 : Int32))), .val (.int (1 : Int32)), .val (.int (1 : Int32))] [(.int (1 : Int32))]))
            refine Good.back (fun _ k => XS.iload X116.here hx rfl (hb hby at_112) rfl k) ?_
            show Good p e below _ (T116.setTop (mkF m 114 #[.val (.long q0), .second, .val (.int p1), .val (.int tt), .val (.int (tt % (8 : Int32))), .val (.int (tt / (8 : Int32))), .val (.int (1 : Int32)), .val (.int (1 : Int32))] [(.int (1 : Int32)), (.int (1 : Int32))]))
            refine Good.back (fun _ k => XS.icmpNo X116.here hx rfl (hb hby at_114) rfl (teq (by decide : ((1 : Int32) = (1 : Int32)))).2 k) ?_
            show Good p e below _ (T116.setTop (mkF m 117 #[.val (.long q0), .second, .val (.int p1), .val (.int tt), .val (.int (tt % (8 : Int32))), .val (.int (tt / (8 : Int32))), .val (.int (1 : Int32)), .val (.int (1 : Int32))] []))
            refine Good.back (fun _ k => XS.iconst X116.here hx rfl (hb hby at_117) k) ?_
            show Good p e below _ (T116.setTop (mkF m 118 #[.val (.long q0), .second, .val (.int p1), .val (.int tt), .val (.int (tt % (8 : Int32))), .val (.int (tt / (8 : Int32))), .val (.int (1 : Int32)), .val (.int (1 : Int32))] [(.int (1 : Int32))]))
            refine Good.back (fun _ k => XS.goto X116.here hx rfl (pc0 := 118) (pc' := 122) rfl (hb hby at_118) (by decide) (by decide) k) ?_
            show Good p e below _ (T116.setTop (mkF m 122 #[.val (.long q0), .second, .val (.int p1), .val (.int tt), .val (.int (tt % (8 : Int32))), .val (.int (tt / (8 : Int32))), .val (.int (1 : Int32)), .val (.int (1 : Int32))] [(.int (1 : Int32))]))
            obtain ⟨fs117, hr117, hrun117, hended117, hW117, hsame117⟩ := X116.leave (v := some (.int (1 : Int32))) (fun h => by rw [Bd.returns] at h; cases h)
            refine Good.done (retN X116 hx (t := .boolean) Bd.returns (by simp) (hb hby at_122) hr117) hrun117 hended117 ⟨_, _, rfl, ?_, ⟨_, rfl⟩, hW117, hsame117.mono (by decide) (by decide)⟩
            show Q0 Z q0 p1 h0 n0 _ T116.heap _
            rw [eh116]
            exact ⟨rfl, N116⟩
          · rw [if_neg hb80_115]
            show Good p e below _ (T114.setTop (mkF m 80 #[.val (.long q0), .second, .val (.int p1), .val (.int tt), .val (.int (tt % (8 : Int32))), .val (.int (tt / (8 : Int32))), .unset, .unset] [(.int (0 : Int32))]))
            refine Good.back (fun _ k => XS.ifYes X114.here hx rfl (pc0 := 80) (pc' := 87) rfl (hb hby at_80) rfl ((if0 _ _).trans (teq (by decide : ((0 : Int32) = (0 : Int32)))).1) (by decide) (by decide) k) ?_
            show Good p e below _ (T114.setTop (mkF m 87 #[.val (.long q0), .second, .val (.int p1), .val (.int tt), .val (.int (tt % (8 : Int32))), .val (.int (tt / (8 : Int32))), .unset, .unset] []))
            refine Good.back (fun _ k => XS.iconst X114.here hx rfl (hb hby at_87) k) ?_
            show Good p e below _ (T114.setTop (mkF m 88 #[.val (.long q0), .second, .val (.int p1), .val (.int tt), .val (.int (tt % (8 : Int32))), .val (.int (tt / (8 : Int32))), .unset, .unset] [(.int (0 : Int32))]))
            refine Good.back (fun _ k => XS.istore X114.here hx rfl (hb hby at_88) rfl (l' := #[.val (.long q0), .second, .val (.int p1), .val (.int tt), .val (.int (tt % (8 : Int32))), .val (.int (tt / (8 : Int32))), .val (.int (0 : Int32)), .unset]) rfl k) ?_
            show Good p e below _ (T114.setTop (mkF m 90 #[.val (.long q0), .second, .val (.int p1), .val (.int tt), .val (.int (tt % (8 : Int32))), .val (.int (tt / (8 : Int32))), .val (.int (0 : Int32)), .unset] []))
            refine Good.back (fun _ k => XS.lloadN X114.here hx rfl (hb hby at_90) rfl k) ?_
            show Good p e below _ (T114.setTop (mkF m 91 #[.val (.long q0), .second, .val (.int p1), .val (.int tt), .val (.int (tt % (8 : Int32))), .val (.int (tt / (8 : Int32))), .val (.int (0 : Int32)), .unset] [(.long q0)]))
            obtain ⟨_, _, ⟨T118, L118, k118, n118⟩, -, X118, ⟨Lc118, hQ118, l118, y118, z118⟩, st118⟩ := Jvm.LawKit.callS X114 hx (y := (⟨"com/example/trinode/trinode/troll/Board", "neighbours", "(J)J"⟩ : MethodName)) hown (mvT hZ (hw _ (List.mem_of_getElem? (i := 4) rfl))) (mvT hZ (hw _ (List.mem_of_getElem? (i := 5) rfl))) (mvT hZ (hw _ (List.mem_of_getElem? (i := 6) rfl))) (mvT hZ (hw _ (List.mem_of_getElem? (i := 7) rfl))) (by decide) (backOf (W := 0) (rm2 l Z a0 hw [] q0  h0 n0 Z0 ) hZ (hw _ (List.mem_of_getElem? (i := 7) rfl)) (hw _ (List.mem_of_getElem? (i := 6) rfl)) (by decide) (by decide)) (g := (mkF m 91 #[.val (.long q0), .second, .val (.int p1), .val (.int tt), .val (.int (tt % (8 : Int32))), .val (.int (tt / (8 : Int32))), .val (.int (0 : Int32)), .unset] [(.long q0)])) rfl (by rw [hml]; rfl) (argsL := [(.long q0)]) (rest := []) (lenOf own_pd37 rfl) rfl (by show 2 * 0 + _ ≤ _; exact Nat.le_of_eq rfl) (hb hby at_91) (fun _ _ => ⟨rfl, eh114, (by decide : 0 + 0 ≤ _), (by decide : 0 + 0 ≤ _)⟩)
            dsimp only [Pt.U, Pt.locs, Pt.cells, Pt.slots] at X118 l118 y118 z118 st118 hQ118
            subst l118 y118 z118
            obtain ⟨rfl, N118q, eh118⟩ := hQ118
            have N118 := Fr.app N114 N118q
            refine Good.back st118 ?_
            show Good p e below _ (T118.setTop (mkF m 94 #[.val (.long q0), .second, .val (.int p1), .val (.int tt), .val (.int (tt % (8 : Int32))), .val (.int (tt / (8 : Int32))), .val (.int (0 : Int32)), .unset] [(.long (own_nb q0))]))
            refine Good.back (fun _ k => XS.iloadN X118.here hx rfl (hb hby at_94) rfl k) ?_
            show Good p e below _ (T118.setTop (mkF m 95 #[.val (.long q0), .second, .val (.int p1), .val (.int tt), .val (.int (tt % (8 : Int32))), .val (.int (tt / (8 : Int32))), .val (.int (0 : Int32)), .unset] [(.int tt), (.long (own_nb q0))]))
            refine Good.back (fun _ k => XS.lushr X118.here hx rfl (hb hby at_95) rfl k) ?_
            show Good p e below _ (T118.setTop (mkF m 96 #[.val (.long q0), .second, .val (.int p1), .val (.int tt), .val (.int (tt % (8 : Int32))), .val (.int (tt / (8 : Int32))), .val (.int (0 : Int32)), .unset] [(.long (((own_nb q0).toUInt64 >>> (tt &&& 0x3f).toInt64.toUInt64).toInt64))]))
            refine Good.back (fun _ k => XS.lconst X118.here hx rfl (hb hby at_96) k) ?_
            show Good p e below _ (T118.setTop (mkF m 97 #[.val (.long q0), .second, .val (.int p1), .val (.int tt), .val (.int (tt % (8 : Int32))), .val (.int (tt / (8 : Int32))), .val (.int (0 : Int32)), .unset] [(.long (1 : Int64)), (.long (((own_nb q0).toUInt64 >>> (tt &&& 0x3f).toInt64.toUInt64).toInt64))]))
            refine Good.back (fun _ k => XS.land X118.here hx rfl (hb hby at_97) rfl k) ?_
            show Good p e below _ (T118.setTop (mkF m 98 #[.val (.long q0), .second, .val (.int p1), .val (.int tt), .val (.int (tt % (8 : Int32))), .val (.int (tt / (8 : Int32))), .val (.int (0 : Int32)), .unset] [(.long ((((own_nb q0).toUInt64 >>> (tt &&& 0x3f).toInt64.toUInt64).toInt64) &&& (1 : Int64)))]))
            refine Good.back (fun _ k => XS.lconst X118.here hx rfl (hb hby at_98) k) ?_
            show Good p e below _ (T118.setTop (mkF m 99 #[.val (.long q0), .second, .val (.int p1), .val (.int tt), .val (.int (tt % (8 : Int32))), .val (.int (tt / (8 : Int32))), .val (.int (0 : Int32)), .unset] [(.long (0 : Int64)), (.long ((((own_nb q0).toUInt64 >>> (tt &&& 0x3f).toInt64.toUInt64).toInt64) &&& (1 : Int64)))]))
            refine Good.back (fun _ k => XS.lcmp X118.here hx rfl (hb hby at_99) rfl k) ?_
            show Good p e below _ (T118.setTop (mkF m 100 #[.val (.long q0), .second, .val (.int p1), .val (.int tt), .val (.int (tt % (8 : Int32))), .val (.int (tt / (8 : Int32))), .val (.int (0 : Int32)), .unset] [(.int (lcmpW ((((own_nb q0).toUInt64 >>> (tt &&& 0x3f).toInt64.toUInt64).toInt64) &&& (1 : Int64)) (0 : Int64)))]))
            have hno119 : ¬ own_has (own_nb q0) tt := fun y => by
              rcases (own_law q0 tt t0 t1).mp y with x | x | x | x
              · exact hc19_1 x.1
              · exact hc36_65 x.1
              · exact hc51_97 x.1
              · exact hb80_115 x.2
            refine Good.back (fun _ k => XS.ifYes X118.here hx rfl (pc0 := 100) (pc' := 107) rfl (hb hby at_100) rfl ((if0 _ _).trans (teq ((lw_eq _ _).mpr (Classical.byContradiction fun y => hno119 y) : (lcmpW ((((own_nb q0).toUInt64 >>> (tt &&& 0x3f).toInt64.toUInt64).toInt64) &&& (1 : Int64)) (0 : Int64)) = (0 : Int32))).1) (by decide) (by decide) k) ?_
            show Good p e below _ (T118.setTop (mkF m 107 #[.val (.long q0), .second, .val (.int p1), .val (.int tt), .val (.int (tt % (8 : Int32))), .val (.int (tt / (8 : Int32))), .val (.int (0 : Int32)), .unset] []))
            refine Good.back (fun _ k => XS.iconst X118.here hx rfl (hb hby at_107) k) ?_
            show Good p e below _ (T118.setTop (mkF m 108 #[.val (.long q0), .second, .val (.int p1), .val (.int tt), .val (.int (tt % (8 : Int32))), .val (.int (tt / (8 : Int32))), .val (.int (0 : Int32)), .unset] [(.int (0 : Int32))]))
            refine Good.back (fun _ k => XS.istore X118.here hx rfl (hb hby at_108) rfl (l' := #[.val (.long q0), .second, .val (.int p1), .val (.int tt), .val (.int (tt % (8 : Int32))), .val (.int (tt / (8 : Int32))), .val (.int (0 : Int32)), .val (.int (0 : Int32))]) rfl k) ?_
            show Good p e below _ (T118.setTop (mkF m 110 #[.val (.long q0), .second, .val (.int p1), .val (.int tt), .val (.int (tt % (8 : Int32))), .val (.int (tt / (8 : Int32))), .val (.int (0 : Int32)), .val (.int (0 : Int32))] []))
            refine Good.back (fun _ k => XS.iload X118.here hx rfl (hb hby at_110) rfl k) ?_
            show Good p e below _ (T118.setTop (mkF m 112 #[.val (.long q0), .second, .val (.int p1), .val (.int tt), .val (.int (tt % (8 : Int32))), .val (.int (tt / (8 : Int32))), .val (.int (0 : Int32)), .val (.int (0 : Int32))] [(.int (0 : Int32))]))
            refine Good.back (fun _ k => XS.iload X118.here hx rfl (hb hby at_112) rfl k) ?_
            show Good p e below _ (T118.setTop (mkF m 114 #[.val (.long q0), .second, .val (.int p1), .val (.int tt), .val (.int (tt % (8 : Int32))), .val (.int (tt / (8 : Int32))), .val (.int (0 : Int32)), .val (.int (0 : Int32))] [(.int (0 : Int32)), (.int (0 : Int32))]))
            refine Good.back (fun _ k => XS.icmpNo X118.here hx rfl (hb hby at_114) rfl (teq (by decide : ((0 : Int32) = (0 : Int32)))).2 k) ?_
            show Good p e below _ (T118.setTop (mkF m 117 #[.val (.long q0), .second, .val (.int p1), .val (.int tt), .val (.int (tt % (8 : Int32))), .val (.int (tt / (8 : Int32))), .val (.int (0 : Int32)), .val (.int (0 : Int32))] []))
            refine Good.back (fun _ k => XS.iconst X118.here hx rfl (hb hby at_117) k) ?_
            show Good p e below _ (T118.setTop (mkF m 118 #[.val (.long q0), .second, .val (.int p1), .val (.int tt), .val (.int (tt % (8 : Int32))), .val (.int (tt / (8 : Int32))), .val (.int (0 : Int32)), .val (.int (0 : Int32))] [(.int (1 : Int32))]))
            refine Good.back (fun _ k => XS.goto X118.here hx rfl (pc0 := 118) (pc' := 122) rfl (hb hby at_118) (by decide) (by decide) k) ?_
            show Good p e below _ (T118.setTop (mkF m 122 #[.val (.long q0), .second, .val (.int p1), .val (.int tt), .val (.int (tt % (8 : Int32))), .val (.int (tt / (8 : Int32))), .val (.int (0 : Int32)), .val (.int (0 : Int32))] [(.int (1 : Int32))]))
            obtain ⟨fs120, hr120, hrun120, hended120, hW120, hsame120⟩ := X118.leave (v := some (.int (1 : Int32))) (fun h => by rw [Bd.returns] at h; cases h)
            refine Good.done (retN X118 hx (t := .boolean) Bd.returns (by simp) (hb hby at_122) hr120) hrun120 hended120 ⟨_, _, rfl, ?_, ⟨_, rfl⟩, hW120, hsame120.mono (by decide) (by decide)⟩
            show Q0 Z q0 p1 h0 n0 _ T118.heap _
            rw [eh118]
            exact ⟨rfl, N118⟩
        · refine Good.back (fun _ k => XS.icmpYes X0.here hx rfl (pc0 := 69) (pc' := 87) rfl (hb hby at_69) rfl (flt hc69_113).2.1 (by decide) (by decide) k) ?_
          show Good p e below _ (s₁.setTop (mkF m 87 #[.val (.long q0), .second, .val (.int p1), .val (.int tt), .val (.int (tt % (8 : Int32))), .val (.int (tt / (8 : Int32))), .unset, .unset] []))
          refine Good.back (fun _ k => XS.iconst X0.here hx rfl (hb hby at_87) k) ?_
          show Good p e below _ (s₁.setTop (mkF m 88 #[.val (.long q0), .second, .val (.int p1), .val (.int tt), .val (.int (tt % (8 : Int32))), .val (.int (tt / (8 : Int32))), .unset, .unset] [(.int (0 : Int32))]))
          refine Good.back (fun _ k => XS.istore X0.here hx rfl (hb hby at_88) rfl (l' := #[.val (.long q0), .second, .val (.int p1), .val (.int tt), .val (.int (tt % (8 : Int32))), .val (.int (tt / (8 : Int32))), .val (.int (0 : Int32)), .unset]) rfl k) ?_
          show Good p e below _ (s₁.setTop (mkF m 90 #[.val (.long q0), .second, .val (.int p1), .val (.int tt), .val (.int (tt % (8 : Int32))), .val (.int (tt / (8 : Int32))), .val (.int (0 : Int32)), .unset] []))
          refine Good.back (fun _ k => XS.lloadN X0.here hx rfl (hb hby at_90) rfl k) ?_
          show Good p e below _ (s₁.setTop (mkF m 91 #[.val (.long q0), .second, .val (.int p1), .val (.int tt), .val (.int (tt % (8 : Int32))), .val (.int (tt / (8 : Int32))), .val (.int (0 : Int32)), .unset] [(.long q0)]))
          obtain ⟨_, _, ⟨T121, L121, k121, n121⟩, -, X121, ⟨Lc121, hQ121, l121, y121, z121⟩, st121⟩ := Jvm.LawKit.callS X0 hx (y := (⟨"com/example/trinode/trinode/troll/Board", "neighbours", "(J)J"⟩ : MethodName)) hown (mvT hZ (hw _ (List.mem_of_getElem? (i := 4) rfl))) (mvT hZ (hw _ (List.mem_of_getElem? (i := 5) rfl))) (mvT hZ (hw _ (List.mem_of_getElem? (i := 6) rfl))) (mvT hZ (hw _ (List.mem_of_getElem? (i := 7) rfl))) (by decide) (backOf (W := 0) (rm2 l Z a0 hw [] q0  h0 n0 Z0 ) hZ (hw _ (List.mem_of_getElem? (i := 7) rfl)) (hw _ (List.mem_of_getElem? (i := 6) rfl)) (by decide) (by decide)) (g := (mkF m 91 #[.val (.long q0), .second, .val (.int p1), .val (.int tt), .val (.int (tt % (8 : Int32))), .val (.int (tt / (8 : Int32))), .val (.int (0 : Int32)), .unset] [(.long q0)])) rfl (by rw [hml]; rfl) (argsL := [(.long q0)]) (rest := []) (lenOf own_pd37 rfl) rfl (by show 2 * 0 + _ ≤ _; exact Nat.le_of_eq rfl) (hb hby at_91) (fun _ _ => ⟨rfl, e0, (by decide : 0 + 0 ≤ _), (by decide : 0 + 0 ≤ _)⟩)
          dsimp only [Pt.U, Pt.locs, Pt.cells, Pt.slots] at X121 l121 y121 z121 st121 hQ121
          subst l121 y121 z121
          obtain ⟨rfl, N121q, eh121⟩ := hQ121
          have N121 := Fr.app N0 N121q
          refine Good.back st121 ?_
          show Good p e below _ (T121.setTop (mkF m 94 #[.val (.long q0), .second, .val (.int p1), .val (.int tt), .val (.int (tt % (8 : Int32))), .val (.int (tt / (8 : Int32))), .val (.int (0 : Int32)), .unset] [(.long (own_nb q0))]))
          refine Good.back (fun _ k => XS.iloadN X121.here hx rfl (hb hby at_94) rfl k) ?_
          show Good p e below _ (T121.setTop (mkF m 95 #[.val (.long q0), .second, .val (.int p1), .val (.int tt), .val (.int (tt % (8 : Int32))), .val (.int (tt / (8 : Int32))), .val (.int (0 : Int32)), .unset] [(.int tt), (.long (own_nb q0))]))
          refine Good.back (fun _ k => XS.lushr X121.here hx rfl (hb hby at_95) rfl k) ?_
          show Good p e below _ (T121.setTop (mkF m 96 #[.val (.long q0), .second, .val (.int p1), .val (.int tt), .val (.int (tt % (8 : Int32))), .val (.int (tt / (8 : Int32))), .val (.int (0 : Int32)), .unset] [(.long (((own_nb q0).toUInt64 >>> (tt &&& 0x3f).toInt64.toUInt64).toInt64))]))
          refine Good.back (fun _ k => XS.lconst X121.here hx rfl (hb hby at_96) k) ?_
          show Good p e below _ (T121.setTop (mkF m 97 #[.val (.long q0), .second, .val (.int p1), .val (.int tt), .val (.int (tt % (8 : Int32))), .val (.int (tt / (8 : Int32))), .val (.int (0 : Int32)), .unset] [(.long (1 : Int64)), (.long (((own_nb q0).toUInt64 >>> (tt &&& 0x3f).toInt64.toUInt64).toInt64))]))
          refine Good.back (fun _ k => XS.land X121.here hx rfl (hb hby at_97) rfl k) ?_
          show Good p e below _ (T121.setTop (mkF m 98 #[.val (.long q0), .second, .val (.int p1), .val (.int tt), .val (.int (tt % (8 : Int32))), .val (.int (tt / (8 : Int32))), .val (.int (0 : Int32)), .unset] [(.long ((((own_nb q0).toUInt64 >>> (tt &&& 0x3f).toInt64.toUInt64).toInt64) &&& (1 : Int64)))]))
          refine Good.back (fun _ k => XS.lconst X121.here hx rfl (hb hby at_98) k) ?_
          show Good p e below _ (T121.setTop (mkF m 99 #[.val (.long q0), .second, .val (.int p1), .val (.int tt), .val (.int (tt % (8 : Int32))), .val (.int (tt / (8 : Int32))), .val (.int (0 : Int32)), .unset] [(.long (0 : Int64)), (.long ((((own_nb q0).toUInt64 >>> (tt &&& 0x3f).toInt64.toUInt64).toInt64) &&& (1 : Int64)))]))
          refine Good.back (fun _ k => XS.lcmp X121.here hx rfl (hb hby at_99) rfl k) ?_
          show Good p e below _ (T121.setTop (mkF m 100 #[.val (.long q0), .second, .val (.int p1), .val (.int tt), .val (.int (tt % (8 : Int32))), .val (.int (tt / (8 : Int32))), .val (.int (0 : Int32)), .unset] [(.int (lcmpW ((((own_nb q0).toUInt64 >>> (tt &&& 0x3f).toInt64.toUInt64).toInt64) &&& (1 : Int64)) (0 : Int64)))]))
          have hno122 : ¬ own_has (own_nb q0) tt := fun y => by
            rcases (own_law q0 tt t0 t1).mp y with x | x | x | x
            · exact hc19_1 x.1
            · exact hc36_65 x.1
            · exact hc51_97 x.1
            · exact hc69_113 x.1
          refine Good.back (fun _ k => XS.ifYes X121.here hx rfl (pc0 := 100) (pc' := 107) rfl (hb hby at_100) rfl ((if0 _ _).trans (teq ((lw_eq _ _).mpr (Classical.byContradiction fun y => hno122 y) : (lcmpW ((((own_nb q0).toUInt64 >>> (tt &&& 0x3f).toInt64.toUInt64).toInt64) &&& (1 : Int64)) (0 : Int64)) = (0 : Int32))).1) (by decide) (by decide) k) ?_
          show Good p e below _ (T121.setTop (mkF m 107 #[.val (.long q0), .second, .val (.int p1), .val (.int tt), .val (.int (tt % (8 : Int32))), .val (.int (tt / (8 : Int32))), .val (.int (0 : Int32)), .unset] []))
          refine Good.back (fun _ k => XS.iconst X121.here hx rfl (hb hby at_107) k) ?_
          show Good p e below _ (T121.setTop (mkF m 108 #[.val (.long q0), .second, .val (.int p1), .val (.int tt), .val (.int (tt % (8 : Int32))), .val (.int (tt / (8 : Int32))), .val (.int (0 : Int32)), .unset] [(.int (0 : Int32))]))
          refine Good.back (fun _ k => XS.istore X121.here hx rfl (hb hby at_108) rfl (l' := #[.val (.long q0), .second, .val (.int p1), .val (.int tt), .val (.int (tt % (8 : Int32))), .val (.int (tt / (8 : Int32))), .val (.int (0 : Int32)), .val (.int (0 : Int32))]) rfl k) ?_
          show Good p e below _ (T121.setTop (mkF m 110 #[.val (.long q0), .second, .val (.int p1), .val (.int tt), .val (.int (tt % (8 : Int32))), .val (.int (tt / (8 : Int32))), .val (.int (0 : Int32)), .val (.int (0 : Int32))] []))
          refine Good.back (fun _ k => XS.iload X121.here hx rfl (hb hby at_110) rfl k) ?_
          show Good p e below _ (T121.setTop (mkF m 112 #[.val (.long q0), .second, .val (.int p1), .val (.int tt), .val (.int (tt % (8 : Int32))), .val (.int (tt / (8 : Int32))), .val (.int (0 : Int32)), .val (.int (0 : Int32))] [(.int (0 : Int32))]))
          refine Good.back (fun _ k => XS.iload X121.here hx rfl (hb hby at_112) rfl k) ?_
          show Good p e below _ (T121.setTop (mkF m 114 #[.val (.long q0), .second, .val (.int p1), .val (.int tt), .val (.int (tt % (8 : Int32))), .val (.int (tt / (8 : Int32))), .val (.int (0 : Int32)), .val (.int (0 : Int32))] [(.int (0 : Int32)), (.int (0 : Int32))]))
          refine Good.back (fun _ k => XS.icmpNo X121.here hx rfl (hb hby at_114) rfl (teq (by decide : ((0 : Int32) = (0 : Int32)))).2 k) ?_
          show Good p e below _ (T121.setTop (mkF m 117 #[.val (.long q0), .second, .val (.int p1), .val (.int tt), .val (.int (tt % (8 : Int32))), .val (.int (tt / (8 : Int32))), .val (.int (0 : Int32)), .val (.int (0 : Int32))] []))
          refine Good.back (fun _ k => XS.iconst X121.here hx rfl (hb hby at_117) k) ?_
          show Good p e below _ (T121.setTop (mkF m 118 #[.val (.long q0), .second, .val (.int p1), .val (.int tt), .val (.int (tt % (8 : Int32))), .val (.int (tt / (8 : Int32))), .val (.int (0 : Int32)), .val (.int (0 : Int32))] [(.int (1 : Int32))]))
          refine Good.back (fun _ k => XS.goto X121.here hx rfl (pc0 := 118) (pc' := 122) rfl (hb hby at_118) (by decide) (by decide) k) ?_
          show Good p e below _ (T121.setTop (mkF m 122 #[.val (.long q0), .second, .val (.int p1), .val (.int tt), .val (.int (tt % (8 : Int32))), .val (.int (tt / (8 : Int32))), .val (.int (0 : Int32)), .val (.int (0 : Int32))] [(.int (1 : Int32))]))
          obtain ⟨fs123, hr123, hrun123, hended123, hW123, hsame123⟩ := X121.leave (v := some (.int (1 : Int32))) (fun h => by rw [Bd.returns] at h; cases h)
          refine Good.done (retN X121 hx (t := .boolean) Bd.returns (by simp) (hb hby at_122) hr123) hrun123 hended123 ⟨_, _, rfl, ?_, ⟨_, rfl⟩, hW123, hsame123.mono (by decide) (by decide)⟩
          show Q0 Z q0 p1 h0 n0 _ T121.heap _
          rw [eh121]
          exact ⟨rfl, N121⟩
set_option maxRecDepth 65536 in
set_option maxHeartbeats 40000000 in
theorem comes_1 {Post : Tables → Env → Array Value → State → Outcome → State → Prop} (hpost : ∀ tb e args s v u, (limb_1_1.after args s (.returned v) u = true ∧ limb_1_2.after args s (.returned v) u = true ∧ True) → FrameEnd s (.returned v) u (Jvm.fieldLocs frame_1_writes args s ++ Jvm.arrayLocs frame_1_arrays args s ++ Jvm.staticLocs frame_1_statics s) 0 0 → Post tb e args s (.returned v) u) :
    ArmFor flags0 classFile x code maxLocals ret World_1 tables_1 room_1 Calls_1 rest_1 Pre_1 Post := by
  intro l hfl _ _ p e ha hc hk s m args below hf hA hF happ hP
  obtain ⟨hcalls, hrest, hpre⟩ := hP
  obtain ⟨-, -, -, hnamed, -, -, -, hat⟩ := (Spec.applies_iff hf).mp happ
  obtain ⟨hg, hn⟩ := and_e (Cond.before_iff.mp (show (Jvm.Cond.and given_1 narrow_1).before args s = true from hpre))
  obtain ⟨g1, g2⟩ := and_e hg
  obtain ⟨g3, g4⟩ := and_e g2
  obtain ⟨w0, w1, rfl⟩ : ∃ w0 w1 : Value, args = #[w0, w1] := by
    have hs : args.size = 2 := by simpa [Cond.value, given_1] using g1
    obtain ⟨L⟩ := args
    match L, hs with
    | [w0, w1], _ => exact ⟨w0, w1, rfl⟩
  have hw := fun d (hd : d ∈ tables_1) => atoms_spec (ws := Jvm.Cond.code x code maxLocals ret :: tables_1) hat d (List.mem_cons_of_mem _ hd)
  have hfit : Fit s := fun {y c} hc i hi => by
    obtain ⟨ha, rfl⟩ := Array.getElem?_eq_some_iff.mp hc
    have q := List.all_eq_true.mp ((Array.all_eq_true_iff_forall_mem.mp hF) _ (Array.getElem_mem ha)) i (List.mem_range.mpr hi)
    simpa [Array.getElem?_eq_getElem hi] using q
  obtain ⟨i0, ei0⟩ := isL_v g3
  obtain rfl : w0 = (.long i0) := Option.some.inj ei0
  obtain ⟨i1, ei1⟩ := is_v g4
  obtain rfl : w1 = (.int i1) := Option.some.inj ei1
  obtain ⟨n, o, h1, h2, h3, _, L, rfl, ⟨rfl, N⟩, hq⟩ := rm0 l s _ hw tables_1 i0 i1  s.heap s.heap.size (Nat.le_refl _)  p e ha hc hk s m _ below hf ((Spec.applies_iff_loose hf).mp happ).1 ⟨rfl, State.Warmed39.refl s, rfl⟩ trivial
  refine ⟨n, _, h1, h2, h3, hpost _ _ _ _ _ _ ⟨Cond.after_iff.mpr rfl, Cond.after_iff.mpr (eq_i res_at (Term.int_eval (1)) rfl), trivial⟩ ⟨hq.1, hq.2.1, (hq.2.2.sift fun y hy => Or.inr (N y hy)).mono (by decide) (by decide)⟩⟩
theorem main_1_1 : Claimed_1_1 := comes_1 fun _ _ _ _ _ _ h hF => ⟨h.1, hF⟩
theorem main_1_2 : Claimed_1_2 := comes_1 fun _ _ _ _ _ _ h hF => ⟨h.2.1, hF⟩
end Jvm.Pilot.@@N@@
namespace Jvm.Pilot.@@N@@
open Jvm Jvm.ClassFile Sem Op Lib Jvm.Free Jvm.Stand Jvm.Pilot.@@N@@.Jvm.D
/-! MADE BY PROGRAM (witnessworld.py) out of the Statement's table words and the real class files: 9 classes; the members and pool entries that the words name. The judged class is class 1, her method 1. -/
namespace start1
open Jvm.ClassFile
def u (s : String) : CpInfo := .utf8 (stringToUtf16 s)
/-- a pool by its gaps: so many unusable entries, then the entry; so many at the end -/
def gap : Nat → List CpInfo → List CpInfo
  | 0, r => r
  | n + 1, r => .unusable :: gap n r
def poolList (es : List (Nat × CpInfo)) (last : Nat) : List CpInfo := es.foldr (fun e r => gap e.1 (e.2 :: r)) (gap last [])
def pool (es : List (Nat × CpInfo)) (last : Nat) : Array CpInfo := ⟨poolList es last⟩
def fileOf (pool : Array CpInfo) (this : Nat) (attrs : Array Attribute := #[]) (ms : Array MethodInfo := #[]) (fl : Nat := 33) (sup : Nat := 0) (ifs : Array Nat := #[]) (fds : Array FieldInfo := #[]) : ClassFile where
  minorVersion := 0
  majorVersion := 65
  constantPool := pool
  accessFlags := fl
  thisClass := this
  superClass := sup
  interfaces := ifs
  fields := fds
  methods := ms
  attributes := attrs
def plain (name : String) (sup : Option ClassId) : Class where
  name := name
  kind := .ordinary
  loader := none
  accessFlags := 33
  super := sup
  interfaces := #[]
  cf := none
  fields := #[]
  methods := #[]
  instanceTypes := #[]
  staticTypes := #[]
  resolved := #[]
  callSites := []
  init := .initialized
  statics := none
  mirror := none

def pool0 : Array CpInfo := pool [(5, u "<init>"), (0, u "()V"), (1, .class_ 10), (1, u "java/lang/Object")] 113

def k0m0 : Method := { name := "<init>", desc := "()V", sig := { parameters := [], returnType := none }, accessFlags := 1, code := none }
/-- java/lang/Object -/
def k0 : Class := { plain "java/lang/Object" none with
  accessFlags := 33
  interfaces := #[]
  cf := some (fileOf pool0 8 #[] #[{ accessFlags := 1, nameIndex := 5, descriptorIndex := 6, attributes := #[] }] 33 0 #[] #[])
  fields := #[]
  methods := #[k0m0]
  instanceTypes := #[]
  staticTypes := #[]
  resolved := Array.replicate 124 none
  statics := none }

def pool1 : Array CpInfo := pool [(2, .class_ 4), (1, u "java/lang/Object"), (0, u "<init>"), (0, u "()V"), (0, .methodref 8 9), (0, .class_ 10), (0, .nameAndType 11 12), (0, u "com/example/trinode/trinode/troll/BoardNeighboursPinLaw"), (0, u "has"), (0, u "(JI)Z"), (0, .methodref 14 15), (0, .class_ 16), (0, .nameAndType 17 18), (0, u "com/example/trinode/trinode/troll/Board"), (0, u "neighbours"), (0, u "(J)J"), (2, u "law")] 3

def k1m0 : Method := { name := "<init>", desc := "()V", sig := { parameters := [], returnType := none }, accessFlags := 1, code := none }
def k1c1 : Code := { maxStack := 4, maxLocals := 8, code := code, exceptionTable := #[], attributes := #[] }
def k1m1 : Method := { name := "law", desc := "(JI)Z", sig := { parameters := [.long, .int], returnType := some .boolean }, accessFlags := 9, code := some k1c1 }
def k1c2 : Code := { maxStack := 4, maxLocals := 3, code := method_3_code, exceptionTable := #[], attributes := #[] }
def k1m2 : Method := { name := "has", desc := "(JI)Z", sig := { parameters := [.long, .int], returnType := some .boolean }, accessFlags := 10, code := some k1c2 }
/-- com/example/trinode/trinode/troll/BoardNeighboursPinLaw -/
def k1 : Class := { plain "com/example/trinode/trinode/troll/BoardNeighboursPinLaw" (some 0) with
  accessFlags := 49
  interfaces := #[]
  cf := some (fileOf pool1 8 #[] #[{ accessFlags := 1, nameIndex := 5, descriptorIndex := 6, attributes := #[] }, { accessFlags := 9, nameIndex := 21, descriptorIndex := 12, attributes := #[] }, { accessFlags := 10, nameIndex := 11, descriptorIndex := 12, attributes := #[] }] 49 2 #[] #[])
  fields := #[]
  methods := #[k1m0, k1m1, k1m2]
  instanceTypes := #[]
  staticTypes := #[]
  resolved := Array.replicate 25 none
  statics := none }

def pool2 : Array CpInfo := pool [(1, .class_ 2), (0, u "com/example/trinode/trinode/troll/Board"), (1, .class_ 6), (1, u "java/lang/Object"), (0, u "<init>"), (0, u "()V"), (54, .long 18374403900871474942), (1, .long 9187201950435737471), (7, u "neighbours"), (0, u "(J)J"), (0, u "FILES"), (0, u "I"), (2, u "RANKS"), (0, u "SQUARES"), (1, u "FILE_A"), (0, u "J"), (0, u "FILE_H"), (0, u "RANK_1"), (0, u "RANK_8"), (0, u "CORNERS")] 32

def k2m0 : Method := { name := "<init>", desc := "()V", sig := { parameters := [], returnType := none }, accessFlags := 2, code := none }
def k2c1 : Code := { maxStack := 5, maxLocals := 6, code := prog_31_method_12_code, exceptionTable := #[], attributes := #[] }
def k2m1 : Method := { name := "neighbours", desc := "(J)J", sig := { parameters := [.long], returnType := some .long }, accessFlags := 8, code := some k2c1 }
/-- com/example/trinode/trinode/troll/Board -/
def k2 : Class := { plain "com/example/trinode/trinode/troll/Board" (some 0) with
  accessFlags := 48
  interfaces := #[]
  cf := some (fileOf pool2 1 #[] #[{ accessFlags := 2, nameIndex := 7, descriptorIndex := 8, attributes := #[] }, { accessFlags := 8, nameIndex := 73, descriptorIndex := 74, attributes := #[] }] 48 4 #[] #[{ accessFlags := 24, nameIndex := 75, descriptorIndex := 76, attributes := #[] }, { accessFlags := 24, nameIndex := 79, descriptorIndex := 76, attributes := #[] }, { accessFlags := 24, nameIndex := 80, descriptorIndex := 76, attributes := #[] }, { accessFlags := 24, nameIndex := 82, descriptorIndex := 83, attributes := #[] }, { accessFlags := 24, nameIndex := 84, descriptorIndex := 83, attributes := #[] }, { accessFlags := 24, nameIndex := 85, descriptorIndex := 83, attributes := #[] }, { accessFlags := 24, nameIndex := 86, descriptorIndex := 83, attributes := #[] }, { accessFlags := 24, nameIndex := 87, descriptorIndex := 83, attributes := #[] }])
  fields := #[{ name := "FILES", type := .int, accessFlags := 24, slot := 0, constantValue := 0 }, { name := "RANKS", type := .int, accessFlags := 24, slot := 1, constantValue := 0 }, { name := "SQUARES", type := .int, accessFlags := 24, slot := 2, constantValue := 0 }, { name := "FILE_A", type := .long, accessFlags := 24, slot := 3, constantValue := 0 }, { name := "FILE_H", type := .long, accessFlags := 24, slot := 4, constantValue := 0 }, { name := "RANK_1", type := .long, accessFlags := 24, slot := 5, constantValue := 0 }, { name := "RANK_8", type := .long, accessFlags := 24, slot := 6, constantValue := 0 }, { name := "CORNERS", type := .long, accessFlags := 24, slot := 7, constantValue := 0 }]
  methods := #[k2m0, k2m1]
  instanceTypes := #[]
  staticTypes := #[.int, .int, .int, .long, .long, .long, .long, .long]
  resolved := Array.replicate 120 none
  statics := none }

def pool3 : Array CpInfo := pool [(1, u "java/lang/Cloneable"), (0, .class_ 1), (0, u "java/lang/Object"), (0, .class_ 3)] 3

/-- java/lang/Cloneable -/
def k3 : Class := { plain "java/lang/Cloneable" (some 0) with
  accessFlags := 1537
  interfaces := #[]
  cf := some (fileOf pool3 2 #[] #[] 1537 4 #[] #[])
  fields := #[]
  methods := #[]
  instanceTypes := #[]
  staticTypes := #[]
  resolved := Array.replicate 8 none
  statics := none }

def pool4 : Array CpInfo := pool [(1, u "java/io/Serializable"), (0, .class_ 1), (0, u "java/lang/Object"), (0, .class_ 3)] 3

/-- java/io/Serializable -/
def k4 : Class := { plain "java/io/Serializable" (some 0) with
  accessFlags := 1537
  interfaces := #[]
  cf := some (fileOf pool4 2 #[] #[] 1537 4 #[] #[])
  fields := #[]
  methods := #[]
  instanceTypes := #[]
  staticTypes := #[]
  resolved := Array.replicate 8 none
  statics := none }

/-- the primitive byte -/
def k5 : Class := { plain "byte" none with kind := .primitive 'B', accessFlags := 0x411 }
/-- [B -/
def k6 : Class := { plain "[B" (some 0) with kind := .array 5 .byte, interfaces := #[3, 4], accessFlags := 1041 }

/-- the primitive int -/
def k7 : Class := { plain "int" none with kind := .primitive 'I', accessFlags := 0x411 }
/-- [I -/
def k8 : Class := { plain "[I" (some 0) with kind := .array 7 .int, interfaces := #[3, 4], accessFlags := 1041 }

def heap : Heap := #[]
def classes : Array Class := #[k0, k1, k2, k3, k4, k5, k6, k7, k8]
def interned : List (Array UInt16 × Addr) := []
def slotsUsed : Nat := 0
def theMethod : MethodId := ⟨1, 1⟩
def args0 : Array Value := #[.long 5, .int 3]
def aboutOver (below : List Frame) : State where
  vm := { classes := classes, interned := interned.toArray }
  heap := heap
  slotsUsed := slotsUsed
  threads := #[{ frames := .invoking theMethod args0 :: below }]
def below0 : List Frame := [.native { method := ⟨0, 0⟩, args := #[] }]
def about1 : State := aboutOver below0
def p0 : Program := .bare "" "" ""
def e0 : Env := launch0.env 0 0 0
theorem w_frames : about1.frames = Frame.invoking theMethod args0 :: below0 := rfl
set_option maxRecDepth 65536 in
theorem w_args : argsFit about1.vm theMethod args0 = true := by decide +kernel
set_option maxRecDepth 65536 in
theorem w_heap : heapFits about1 = true := by decide +kernel
set_option maxRecDepth 65536 in
theorem w_runnable : about1.curStatus? = some .runnable := by decide +kernel
set_option maxRecDepth 65536 in
theorem w_alone : about1.alone = true := by decide +kernel
set_option maxRecDepth 65536 in
theorem w_named : about1.methodNamed? x = some theMethod := by decide +kernel
set_option maxRecDepth 65536 in
theorem w_hears : about1.hears theMethod below0 = true := by decide +kernel
set_option maxRecDepth 65536 in
theorem w_ripe : about1.ripe theMethod args0 below0 = true := by decide +kernel
theorem w_running : about1.status = .running := rfl
set_option maxRecDepth 65536 in
theorem w_room : about1.hasRoom e0.platform room_1 = true :=
  launch0.hasRoom_least _ room_1 (by decide +kernel) (by decide +kernel) (by decide +kernel) (by decide +kernel) (by decide +kernel) (by decide +kernel)
theorem allAtoms_all (ts : List Jvm.Cond) (a : Array Jvm.Value) (st : Jvm.State) : (allAtoms ts).before a st = ts.all (fun c => c.before a st) := by
  induction ts with
  | nil => rfl
  | cons c t ih =>
    show (Jvm.Cond.and c (allAtoms t)).before a st = _
    rw [Jvm.Cond.before_and, ih, List.all_cons]
def words1 : List Jvm.Cond := Jvm.Cond.code x code maxLocals ret :: tables_1
/-- a 'code' word, met by the world's own term for the bytes: nothing is compared byte by byte -/
theorem code_word {y : MethodName} {bytes : ByteArray} {mx : Nat} {rt : Option FieldType} {a : Array Value} {s : State} {m : MethodId} {meth : Method} {c : Code} (h1 : s.methodNamed? y = some m) (h2 : s.vm.method? m = some meth) (h3 : meth.code = some c) (h4 : c.code = bytes)
    (h5 : (c.maxLocals == mx && c.exceptionTable.isEmpty && decide (c.maxStack ≤ mostOperands) && decide (meth.sig.returnType = rt) && !meth.locks && decide (parseMethodDescriptor y.desc = some meth.sig)) = true) : (Jvm.Cond.code y bytes mx rt).before a s = true := by
  simp only [Bool.and_eq_true, beq_iff_eq, Bool.not_eq_true', decide_eq_true_eq] at h5
  obtain ⟨⟨⟨⟨⟨g1, g2⟩, g3⟩, g4⟩, g5⟩, g6⟩ := h5
  simp [Cond.before, Cond.holds, Cond.value, h1, h2, h3, h4, g1, g2, g3, g4, g5, g6]
def isCode : Jvm.Cond → Bool
  | .code _ _ _ _ => true
  | _ => false
theorem all_split {L : List Jvm.Cond} {P : Jvm.Cond → Bool} (h1 : L.all (fun c => isCode c || P c) = true) (h2 : ∀ c ∈ L.filter isCode, P c = true) : L.all P = true := by
  refine List.all_eq_true.mpr fun c hc => ?_
  have h := List.all_eq_true.mp h1 c hc
  rcases Bool.eq_false_or_eq_true (isCode c) with hi | hi
  · exact h2 c (List.mem_filter.mpr ⟨hc, hi⟩)
  · simpa [hi] using h
set_option maxRecDepth 65536 in
theorem w_c0 : (Jvm.Cond.code x code maxLocals ret).before args0 about1 = true := code_word (m := ⟨1, 1⟩) (meth := k1m1) (c := k1c1) (by decide +kernel) rfl rfl rfl (by decide +kernel)
set_option maxRecDepth 65536 in
theorem w_c1 : (Jvm.Cond.code ({ cls := "com/example/trinode/trinode/troll/BoardNeighboursPinLaw", name := "has", desc := "(JI)Z" } : Jvm.MethodName) method_3_code (3 : Nat) (Option.some Jvm.ClassFile.FieldType.boolean)).before args0 about1 = true := code_word (m := ⟨1, 2⟩) (meth := k1m2) (c := k1c2) (by decide +kernel) rfl rfl rfl (by decide +kernel)
set_option maxRecDepth 65536 in
theorem w_c2 : (Jvm.Cond.code ({ cls := "com/example/trinode/trinode/troll/Board", name := "neighbours", desc := "(J)J" } : Jvm.MethodName) prog_31_method_12_code (6 : Nat) (Option.some Jvm.ClassFile.FieldType.long)).before args0 about1 = true := code_word (m := ⟨2, 1⟩) (meth := k2m1) (c := k2c1) (by decide +kernel) rfl rfl rfl (by decide +kernel)
def codes1 : List Jvm.Cond := [Jvm.Cond.code x code maxLocals ret, Jvm.Cond.code ({ cls := "com/example/trinode/trinode/troll/BoardNeighboursPinLaw", name := "has", desc := "(JI)Z" } : Jvm.MethodName) method_3_code (3 : Nat) (Option.some Jvm.ClassFile.FieldType.boolean), Jvm.Cond.code ({ cls := "com/example/trinode/trinode/troll/Board", name := "neighbours", desc := "(J)J" } : Jvm.MethodName) prog_31_method_12_code (6 : Nat) (Option.some Jvm.ClassFile.FieldType.long)]
set_option maxRecDepth 65536 in
theorem codes_eq : words1.filter isCode = codes1 := rfl
theorem w_codes : ∀ c ∈ words1.filter isCode, c.before args0 about1 = true := by
  rw [codes_eq]
  intro c hc
  simp only [codes1, List.mem_cons, List.not_mem_nil, or_false] at hc
  rcases hc with rfl | rfl | rfl
  · exact w_c0
  · exact w_c1
  · exact w_c2
set_option maxRecDepth 65536 in
theorem w_t1 : words1.all (fun c => isCode c || c.before args0 about1) = true := by decide +kernel
theorem w_tables : (allAtoms (Jvm.Cond.code x code maxLocals ret :: tables_1)).before args0 about1 = true := by
  rw [allAtoms_all]
  show words1.all (fun c => c.before args0 about1) = true
  refine all_split ?_ w_codes
  rw [w_t1]
set_option maxRecDepth 65536 in
theorem w_case : (Jvm.Cond.and given_1 narrow_1).before args0 about1 = true := by decide +kernel
theorem w_applies : (headSpec (Jvm.Cond.code x code maxLocals ret :: tables_1) room_1).applies x e0.platform about1 = true :=
  (Spec.applies_iff w_frames).mpr ⟨w_running, w_runnable, w_alone, w_named, w_hears, w_ripe, w_room, w_tables⟩
theorem atStart : AtStart classFile x code maxLocals ret World_1 tables_1 room_1 Calls_1 rest_1 Pre_1 launch0 p0 e0 about1 theMethod args0 below0 :=
  ⟨lists_1, trivial, launch0.admits_env _ _ _, launch0.least_env, fairChoices_fair.cas, fairChoices_fair.clock, w_frames, w_args, w_heap, w_applies, trivial, trivial, w_case⟩
end start1
theorem witness_1 : WitnessClaimed_1 := ⟨start1.p0, start1.e0, start1.about1, start1.theMethod, start1.args0, start1.below0, start1.atStart⟩
end Jvm.Pilot.@@N@@
