import JvmDerived
import JvmDerived.Pilot.@@N@@Statement
import JvmDerived.Pilot.@@N@@Code
set_option linter.unusedVariables false
set_option linter.unusedSimpArgs false
namespace Jvm.RoadKit
open Sem ClassFile Op Lib Jvm.Stand Jvm.Free Jvm.LawKit
section New
variable {p : Program} {l : Launch} {e : Env} {R : Room} {s : State} {m : MethodId} {args : Array Value} {below : List Frame} {meth : Method} {c : Code} {T : State} {locs : List Loc} {cells slots : Nat}
theorem retI (X : Stand p l e R s m args below meth c T locs cells slots) (hx : p.tables.exec = Jvm.exec) {pc : Nat} {Ls : Array Slot} {z : Int32} {rest : List Value} (hret : meth.sig.returnType = some .int) (hd : decode c.code pc = .ok (.ireturn, 1)) {fs : List Frame}
    (hl : ∀ (f : JFrame) (acts : List Action), f.method = m → f.locked = none → f.entered = [] → (doReturn e (T.setTop f) acts (some (.int z))).1 = T.setFrames fs) : Steps p.tables e below (T.setTop (mkF m pc Ls (.int z :: rest))) (T.setFrames fs) := by
  have hm' : T.vm.method? m = some meth := X.method'
  have hn : narrow .int (.int z) = .int z := rfl
  show Steps p.tables e below (T.setTop { method := m, pc := pc, locals := Ls, stack := _ :: rest, locked := none }) _
  jvm_step X.here [X.here.top, hx, hd, hm', hret, hn]
  first | (intro acts; rw [hl _ acts rfl rfl rfl]) | rw [hl _ _ rfl rfl rfl]
  exact Steps.refl _
end New
/-- from this state a run goes on to an end that meets K -/
def Good (p : Program) (e : Env) (below : List Frame) (K : Outcome → State → Prop) (S : State) : Prop := ∃ s₂ o, Steps p.tables e below S s₂ ∧ s₂.status = .running ∧ Ended s₂ below o ∧ K o s₂
theorem Good.back {p : Program} {e : Env} {below : List Frame} {K : Outcome → State → Prop} {S S' : State} (h : ∀ t, Steps p.tables e below S' t → Steps p.tables e below S t) (g : Good p e below K S') : Good p e below K S := by
  obtain ⟨t, o, h1, h2⟩ := g
  exact ⟨t, o, h t h1, h2⟩
theorem Good.done {p : Program} {e : Env} {below : List Frame} {K : Outcome → State → Prop} {S t : State} {o : Outcome} (h1 : Steps p.tables e below S t) (h2 : t.status = .running) (h3 : Ended t below o) (h4 : K o t) : Good p e below K S := ⟨t, o, h1, h2, h3, h4⟩
end Jvm.RoadKit
namespace Jvm.Pilot.@@N@@
open Jvm Jvm.ClassFile Sem Op Lib Jvm.Free Jvm.Stand Jvm.LawKit Jvm.RoadKit Bundle Jvm.Pilot.@@N@@.Jvm.D
theorem wd {Z : State} {a0 : Array Value} (hw : ∀ d ∈ tables_1, d.before a0 Z = true) (i : Nat) {d : Jvm.Cond} (h : tables_1[i]? = some d) : d.before a0 Z = true := hw _ (List.mem_of_getElem? h)
abbrev own_A (b : ByteArray) (p : Nat) (i : Instr) (n : Nat) : Prop := decode b p = .ok (i, n)
abbrev a_II (x0 : Int32) (x1 : Int32) : Array Slot := #[.val (.int x0), .val (.int x1)]
abbrev a_I3u (x0 : Int32) (x1 : Int32) (x2 : Int32) : Array Slot := #[.val (.int x0), .val (.int x1), .val (.int x2), .unset]
abbrev a_I4 (x0 : Int32) (x1 : Int32) (x2 : Int32) (x3 : Int32) : Array Slot := #[.val (.int x0), .val (.int x1), .val (.int x2), .val (.int x3)]
abbrev a_RIu4 (x0 : Addr) (x1 : Int32) : Array Slot := #[.val (.ref x0), .val (.int x1), .unset, .unset, .unset, .unset]
abbrev a_RIIu3 (x0 : Addr) (x1 : Int32) (x2 : Int32) : Array Slot := #[.val (.ref x0), .val (.int x1), .val (.int x2), .unset, .unset, .unset]
abbrev a_RI3uu (x0 : Addr) (x1 : Int32) (x2 : Int32) (x3 : Int32) : Array Slot := #[.val (.ref x0), .val (.int x1), .val (.int x2), .val (.int x3), .unset, .unset]
abbrev a_RI4u (x0 : Addr) (x1 : Int32) (x2 : Int32) (x3 : Int32) (x4 : Int32) : Array Slot := #[.val (.ref x0), .val (.int x1), .val (.int x2), .val (.int x3), .val (.int x4), .unset]
abbrev a_RI5 (x0 : Addr) (x1 : Int32) (x2 : Int32) (x3 : Int32) (x4 : Int32) (x5 : Int32) : Array Slot := #[.val (.ref x0), .val (.int x1), .val (.int x2), .val (.int x3), .val (.int x4), .val (.int x5)]
abbrev a_RIu (x0 : Addr) (x1 : Int32) : Array Slot := #[.val (.ref x0), .val (.int x1), .unset]
abbrev a_RIR (x0 : Addr) (x1 : Int32) (x2 : Addr) : Array Slot := #[.val (.ref x0), .val (.int x1), .val (.ref x2)]
abbrev a_RII (x0 : Addr) (x1 : Int32) (x2 : Int32) : Array Slot := #[.val (.ref x0), .val (.int x1), .val (.int x2)]
abbrev a_R (x0 : Addr) : Array Slot := #[.val (.ref x0)]
abbrev a_RR (x0 : Addr) (x1 : Addr) : Array Slot := #[.val (.ref x0), .val (.ref x1)]
abbrev a_RRII (x0 : Addr) (x1 : Addr) (x2 : Int32) (x3 : Int32) : Array Slot := #[.val (.ref x0), .val (.ref x1), .val (.int x2), .val (.int x3)]
abbrev a_RRu (x0 : Addr) (x1 : Addr) : Array Slot := #[.val (.ref x0), .val (.ref x1), .unset]
abbrev a_RRI (x0 : Addr) (x1 : Addr) (x2 : Int32) : Array Slot := #[.val (.ref x0), .val (.ref x1), .val (.int x2)]
abbrev a_Jsu4 (x0 : Int64) : Array Slot := #[.val (.long x0), .second, .unset, .unset, .unset, .unset]
abbrev a_JsIu3 (x0 : Int64) (x2 : Int32) : Array Slot := #[.val (.long x0), .second, .val (.int x2), .unset, .unset, .unset]
abbrev a_JsIJsu (x0 : Int64) (x2 : Int32) (x3 : Int64) : Array Slot := #[.val (.long x0), .second, .val (.int x2), .val (.long x3), .second, .unset]
abbrev a_JsIJsI (x0 : Int64) (x2 : Int32) (x3 : Int64) (x5 : Int32) : Array Slot := #[.val (.long x0), .second, .val (.int x2), .val (.long x3), .second, .val (.int x5)]
abbrev a_JsIRu7 (x0 : Int64) (x2 : Int32) (x3 : Addr) : Array Slot := #[.val (.long x0), .second, .val (.int x2), .val (.ref x3), .unset, .unset, .unset, .unset, .unset, .unset, .unset]
abbrev a_JsIRu3Iu3 (x0 : Int64) (x2 : Int32) (x3 : Addr) (x7 : Int32) : Array Slot := #[.val (.long x0), .second, .val (.int x2), .val (.ref x3), .unset, .unset, .unset, .val (.int x7), .unset, .unset, .unset]
abbrev a_JsIRS3IISI (x0 : Int64) (x2 : Int32) (x3 : Addr) (x4 : Slot) (x5 : Slot) (x6 : Slot) (x7 : Int32) (x8 : Int32) (x9 : Slot) (x10 : Int32) : Array Slot := #[.val (.long x0), .second, .val (.int x2), .val (.ref x3), x4, x5, x6, .val (.int x7), .val (.int x8), x9, .val (.int x10)]
abbrev a_JsIRSSI5 (x0 : Int64) (x2 : Int32) (x3 : Addr) (x4 : Slot) (x5 : Slot) (x6 : Int32) (x7 : Int32) (x8 : Int32) (x9 : Int32) (x10 : Int32) : Array Slot := #[.val (.long x0), .second, .val (.int x2), .val (.ref x3), x4, x5, .val (.int x6), .val (.int x7), .val (.int x8), .val (.int x9), .val (.int x10)]
abbrev a_JsIRu3IIuu (x0 : Int64) (x2 : Int32) (x3 : Addr) (x7 : Int32) (x8 : Int32) : Array Slot := #[.val (.long x0), .second, .val (.int x2), .val (.ref x3), .unset, .unset, .unset, .val (.int x7), .val (.int x8), .unset, .unset]
abbrev a_JsIRu3IIuI (x0 : Int64) (x2 : Int32) (x3 : Addr) (x7 : Int32) (x8 : Int32) (x10 : Int32) : Array Slot := #[.val (.long x0), .second, .val (.int x2), .val (.ref x3), .unset, .unset, .unset, .val (.int x7), .val (.int x8), .unset, .val (.int x10)]
abbrev a_JsIRu3I4 (x0 : Int64) (x2 : Int32) (x3 : Addr) (x7 : Int32) (x8 : Int32) (x9 : Int32) (x10 : Int32) : Array Slot := #[.val (.long x0), .second, .val (.int x2), .val (.ref x3), .unset, .unset, .unset, .val (.int x7), .val (.int x8), .val (.int x9), .val (.int x10)]
abbrev a_JsIRuuI5 (x0 : Int64) (x2 : Int32) (x3 : Addr) (x6 : Int32) (x7 : Int32) (x8 : Int32) (x9 : Int32) (x10 : Int32) : Array Slot := #[.val (.long x0), .second, .val (.int x2), .val (.ref x3), .unset, .unset, .val (.int x6), .val (.int x7), .val (.int x8), .val (.int x9), .val (.int x10)]
abbrev a_JsIRJsuIIuu (x0 : Int64) (x2 : Int32) (x3 : Addr) (x4 : Int64) (x7 : Int32) (x8 : Int32) : Array Slot := #[.val (.long x0), .second, .val (.int x2), .val (.ref x3), .val (.long x4), .second, .unset, .val (.int x7), .val (.int x8), .unset, .unset]
abbrev a_JsIRJsI3uu (x0 : Int64) (x2 : Int32) (x3 : Addr) (x4 : Int64) (x6 : Int32) (x7 : Int32) (x8 : Int32) : Array Slot := #[.val (.long x0), .second, .val (.int x2), .val (.ref x3), .val (.long x4), .second, .val (.int x6), .val (.int x7), .val (.int x8), .unset, .unset]
abbrev a_JsIRJsI3uI (x0 : Int64) (x2 : Int32) (x3 : Addr) (x4 : Int64) (x6 : Int32) (x7 : Int32) (x8 : Int32) (x10 : Int32) : Array Slot := #[.val (.long x0), .second, .val (.int x2), .val (.ref x3), .val (.long x4), .second, .val (.int x6), .val (.int x7), .val (.int x8), .unset, .val (.int x10)]
abbrev a_JsIRJsI5 (x0 : Int64) (x2 : Int32) (x3 : Addr) (x4 : Int64) (x6 : Int32) (x7 : Int32) (x8 : Int32) (x9 : Int32) (x10 : Int32) : Array Slot := #[.val (.long x0), .second, .val (.int x2), .val (.ref x3), .val (.long x4), .second, .val (.int x6), .val (.int x7), .val (.int x8), .val (.int x9), .val (.int x10)]
abbrev a_RJsuu (x0 : Addr) (x1 : Int64) : Array Slot := #[.val (.ref x0), .val (.long x1), .second, .unset, .unset]
abbrev a_RJsIu (x0 : Addr) (x1 : Int64) (x3 : Int32) : Array Slot := #[.val (.ref x0), .val (.long x1), .second, .val (.int x3), .unset]
abbrev a_RJsII (x0 : Addr) (x1 : Int64) (x3 : Int32) (x4 : Int32) : Array Slot := #[.val (.ref x0), .val (.long x1), .second, .val (.int x3), .val (.int x4)]
abbrev a_RJs (x0 : Addr) (x1 : Int64) : Array Slot := #[.val (.ref x0), .val (.long x1), .second]
abbrev a_Iu3 (x0 : Int32) : Array Slot := #[.val (.int x0), .unset, .unset, .unset]
abbrev a_IIuu (x0 : Int32) (x1 : Int32) : Array Slot := #[.val (.int x0), .val (.int x1), .unset, .unset]
abbrev a_IIRu4 (x0 : Int32) (x1 : Int32) (x2 : Addr) : Array Slot := #[.val (.int x0), .val (.int x1), .val (.ref x2), .unset, .unset, .unset, .unset]
abbrev a_IIRuuIu (x0 : Int32) (x1 : Int32) (x2 : Addr) (x5 : Int32) : Array Slot := #[.val (.int x0), .val (.int x1), .val (.ref x2), .unset, .unset, .val (.int x5), .unset]
abbrev a_IIRuuII (x0 : Int32) (x1 : Int32) (x2 : Addr) (x5 : Int32) (x6 : Int32) : Array Slot := #[.val (.int x0), .val (.int x1), .val (.ref x2), .unset, .unset, .val (.int x5), .val (.int x6)]
abbrev a_RIuu (x0 : Addr) (x1 : Int32) : Array Slot := #[.val (.ref x0), .val (.int x1), .unset, .unset]
abbrev a_RIIu (x0 : Addr) (x1 : Int32) (x2 : Int32) : Array Slot := #[.val (.ref x0), .val (.int x1), .val (.int x2), .unset]
abbrev a_RI3 (x0 : Addr) (x1 : Int32) (x2 : Int32) (x3 : Int32) : Array Slot := #[.val (.ref x0), .val (.int x1), .val (.int x2), .val (.int x3)]
abbrev a_RI (x0 : Addr) (x1 : Int32) : Array Slot := #[.val (.ref x0), .val (.int x1)]
abbrev a_I (x0 : Int32) : Array Slot := #[.val (.int x0)]
abbrev a_RIIuu (x0 : Addr) (x1 : Int32) (x2 : Int32) : Array Slot := #[.val (.ref x0), .val (.int x1), .val (.int x2), .unset, .unset]
abbrev a_RI3u (x0 : Addr) (x1 : Int32) (x2 : Int32) (x3 : Int32) : Array Slot := #[.val (.ref x0), .val (.int x1), .val (.int x2), .val (.int x3), .unset]
abbrev a_RI3R (x0 : Addr) (x1 : Int32) (x2 : Int32) (x3 : Int32) (x4 : Addr) : Array Slot := #[.val (.ref x0), .val (.int x1), .val (.int x2), .val (.int x3), .val (.ref x4)]
abbrev a_RRnuu (x0 : Addr) (x1 : Addr) : Array Slot := #[.val (.ref x0), .val (.ref x1), .val .null, .unset, .unset]
abbrev a_RRnRu (x0 : Addr) (x1 : Addr) (x3 : Addr) : Array Slot := #[.val (.ref x0), .val (.ref x1), .val .null, .val (.ref x3), .unset]
abbrev a_RRnRI (x0 : Addr) (x1 : Addr) (x3 : Addr) (x4 : Int32) : Array Slot := #[.val (.ref x0), .val (.ref x1), .val .null, .val (.ref x3), .val (.int x4)]
abbrev a_JsJs (x0 : Int64) (x2 : Int64) : Array Slot := #[.val (.long x0), .second, .val (.long x2), .second]
abbrev a_Js (x0 : Int64) : Array Slot := #[.val (.long x0), .second]
abbrev a_JsJsu6 (x0 : Int64) (x2 : Int64) : Array Slot := #[.val (.long x0), .second, .val (.long x2), .second, .unset, .unset, .unset, .unset, .unset, .unset]
abbrev a_JsJsJsu4 (x0 : Int64) (x2 : Int64) (x4 : Int64) : Array Slot := #[.val (.long x0), .second, .val (.long x2), .second, .val (.long x4), .second, .unset, .unset, .unset, .unset]
abbrev a_JsJsJsJsuu (x0 : Int64) (x2 : Int64) (x4 : Int64) (x6 : Int64) : Array Slot := #[.val (.long x0), .second, .val (.long x2), .second, .val (.long x4), .second, .val (.long x6), .second, .unset, .unset]
abbrev a_JsJsJsJsJs (x0 : Int64) (x2 : Int64) (x4 : Int64) (x6 : Int64) (x8 : Int64) : Array Slot := #[.val (.long x0), .second, .val (.long x2), .second, .val (.long x4), .second, .val (.long x6), .second, .val (.long x8), .second]
abbrev a_RJsu7 (x0 : Addr) (x1 : Int64) : Array Slot := #[.val (.ref x0), .val (.long x1), .second, .unset, .unset, .unset, .unset, .unset, .unset, .unset]
abbrev a_RJsRu6 (x0 : Addr) (x1 : Int64) (x3 : Addr) : Array Slot := #[.val (.ref x0), .val (.long x1), .second, .val (.ref x3), .unset, .unset, .unset, .unset, .unset, .unset]
abbrev a_RJsRJsu4 (x0 : Addr) (x1 : Int64) (x3 : Addr) (x4 : Int64) : Array Slot := #[.val (.ref x0), .val (.long x1), .second, .val (.ref x3), .val (.long x4), .second, .unset, .unset, .unset, .unset]
abbrev a_RJsRJsJsuu (x0 : Addr) (x1 : Int64) (x3 : Addr) (x4 : Int64) (x6 : Int64) : Array Slot := #[.val (.ref x0), .val (.long x1), .second, .val (.ref x3), .val (.long x4), .second, .val (.long x6), .second, .unset, .unset]
abbrev a_RJsRJsJsJs (x0 : Addr) (x1 : Int64) (x3 : Addr) (x4 : Int64) (x6 : Int64) (x8 : Int64) : Array Slot := #[.val (.ref x0), .val (.long x1), .second, .val (.ref x3), .val (.long x4), .second, .val (.long x6), .second, .val (.long x8), .second]
abbrev a_IIR (x0 : Int32) (x1 : Int32) (x2 : Addr) : Array Slot := #[.val (.int x0), .val (.int x1), .val (.ref x2)]
abbrev a_IIn (x0 : Int32) (x1 : Int32) : Array Slot := #[.val (.int x0), .val (.int x1), .val .null]
abbrev a_Jsuu (x0 : Int64) : Array Slot := #[.val (.long x0), .second, .unset, .unset]
abbrev a_RIJsu6 (x0 : Addr) (x1 : Int32) (x2 : Int64) : Array Slot := #[.val (.ref x0), .val (.int x1), .val (.long x2), .second, .unset, .unset, .unset, .unset, .unset, .unset]
abbrev a_RIJsIJsI3 (x0 : Addr) (x1 : Int32) (x2 : Int64) (x4 : Int32) (x5 : Int64) (x7 : Int32) (x8 : Int32) (x9 : Int32) : Array Slot := #[.val (.ref x0), .val (.int x1), .val (.long x2), .second, .val (.int x4), .val (.long x5), .second, .val (.int x7), .val (.int x8), .val (.int x9)]
abbrev a_RIJsIu5 (x0 : Addr) (x1 : Int32) (x2 : Int64) (x4 : Int32) : Array Slot := #[.val (.ref x0), .val (.int x1), .val (.long x2), .second, .val (.int x4), .unset, .unset, .unset, .unset, .unset]
abbrev a_RIJsIJsu3 (x0 : Addr) (x1 : Int32) (x2 : Int64) (x4 : Int32) (x5 : Int64) : Array Slot := #[.val (.ref x0), .val (.int x1), .val (.long x2), .second, .val (.int x4), .val (.long x5), .second, .unset, .unset, .unset]
abbrev a_RIJsIJsIuu (x0 : Addr) (x1 : Int32) (x2 : Int64) (x4 : Int32) (x5 : Int64) (x7 : Int32) : Array Slot := #[.val (.ref x0), .val (.int x1), .val (.long x2), .second, .val (.int x4), .val (.long x5), .second, .val (.int x7), .unset, .unset]
abbrev a_RIJsIJsIIu (x0 : Addr) (x1 : Int32) (x2 : Int64) (x4 : Int32) (x5 : Int64) (x7 : Int32) (x8 : Int32) : Array Slot := #[.val (.ref x0), .val (.int x1), .val (.long x2), .second, .val (.int x4), .val (.long x5), .second, .val (.int x7), .val (.int x8), .unset]
abbrev a_I5u12 (x0 : Int32) (x1 : Int32) (x2 : Int32) (x3 : Int32) (x4 : Int32) : Array Slot := #[.val (.int x0), .val (.int x1), .val (.int x2), .val (.int x3), .val (.int x4), .unset, .unset, .unset, .unset, .unset, .unset, .unset, .unset, .unset, .unset, .unset, .unset]
abbrev a_I6u11 (x0 : Int32) (x1 : Int32) (x2 : Int32) (x3 : Int32) (x4 : Int32) (x5 : Int32) : Array Slot := #[.val (.int x0), .val (.int x1), .val (.int x2), .val (.int x3), .val (.int x4), .val (.int x5), .unset, .unset, .unset, .unset, .unset, .unset, .unset, .unset, .unset, .unset, .unset]
abbrev a_I6Ru10 (x0 : Int32) (x1 : Int32) (x2 : Int32) (x3 : Int32) (x4 : Int32) (x5 : Int32) (x6 : Addr) : Array Slot := #[.val (.int x0), .val (.int x1), .val (.int x2), .val (.int x3), .val (.int x4), .val (.int x5), .val (.ref x6), .unset, .unset, .unset, .unset, .unset, .unset, .unset, .unset, .unset, .unset]
abbrev a_I6RJsu8 (x0 : Int32) (x1 : Int32) (x2 : Int32) (x3 : Int32) (x4 : Int32) (x5 : Int32) (x6 : Addr) (x7 : Int64) : Array Slot := #[.val (.int x0), .val (.int x1), .val (.int x2), .val (.int x3), .val (.int x4), .val (.int x5), .val (.ref x6), .val (.long x7), .second, .unset, .unset, .unset, .unset, .unset, .unset, .unset, .unset]
abbrev a_I6RJsJsu6 (x0 : Int32) (x1 : Int32) (x2 : Int32) (x3 : Int32) (x4 : Int32) (x5 : Int32) (x6 : Addr) (x7 : Int64) (x9 : Int64) : Array Slot := #[.val (.int x0), .val (.int x1), .val (.int x2), .val (.int x3), .val (.int x4), .val (.int x5), .val (.ref x6), .val (.long x7), .second, .val (.long x9), .second, .unset, .unset, .unset, .unset, .unset, .unset]
abbrev a_I6RJsJsRu5 (x0 : Int32) (x1 : Int32) (x2 : Int32) (x3 : Int32) (x4 : Int32) (x5 : Int32) (x6 : Addr) (x7 : Int64) (x9 : Int64) (x11 : Addr) : Array Slot := #[.val (.int x0), .val (.int x1), .val (.int x2), .val (.int x3), .val (.int x4), .val (.int x5), .val (.ref x6), .val (.long x7), .second, .val (.long x9), .second, .val (.ref x11), .unset, .unset, .unset, .unset, .unset]
abbrev a_I6RJsJsRIu4 (x0 : Int32) (x1 : Int32) (x2 : Int32) (x3 : Int32) (x4 : Int32) (x5 : Int32) (x6 : Addr) (x7 : Int64) (x9 : Int64) (x11 : Addr) (x12 : Int32) : Array Slot := #[.val (.int x0), .val (.int x1), .val (.int x2), .val (.int x3), .val (.int x4), .val (.int x5), .val (.ref x6), .val (.long x7), .second, .val (.long x9), .second, .val (.ref x11), .val (.int x12), .unset, .unset, .unset, .unset]
abbrev a_I6RJsJsRIIu3 (x0 : Int32) (x1 : Int32) (x2 : Int32) (x3 : Int32) (x4 : Int32) (x5 : Int32) (x6 : Addr) (x7 : Int64) (x9 : Int64) (x11 : Addr) (x12 : Int32) (x13 : Int32) : Array Slot := #[.val (.int x0), .val (.int x1), .val (.int x2), .val (.int x3), .val (.int x4), .val (.int x5), .val (.ref x6), .val (.long x7), .second, .val (.long x9), .second, .val (.ref x11), .val (.int x12), .val (.int x13), .unset, .unset, .unset]
abbrev a_I6RJsJsRI3uu (x0 : Int32) (x1 : Int32) (x2 : Int32) (x3 : Int32) (x4 : Int32) (x5 : Int32) (x6 : Addr) (x7 : Int64) (x9 : Int64) (x11 : Addr) (x12 : Int32) (x13 : Int32) (x14 : Int32) : Array Slot := #[.val (.int x0), .val (.int x1), .val (.int x2), .val (.int x3), .val (.int x4), .val (.int x5), .val (.ref x6), .val (.long x7), .second, .val (.long x9), .second, .val (.ref x11), .val (.int x12), .val (.int x13), .val (.int x14), .unset, .unset]
abbrev a_I6RJsJsRI4u (x0 : Int32) (x1 : Int32) (x2 : Int32) (x3 : Int32) (x4 : Int32) (x5 : Int32) (x6 : Addr) (x7 : Int64) (x9 : Int64) (x11 : Addr) (x12 : Int32) (x13 : Int32) (x14 : Int32) (x15 : Int32) : Array Slot := #[.val (.int x0), .val (.int x1), .val (.int x2), .val (.int x3), .val (.int x4), .val (.int x5), .val (.ref x6), .val (.long x7), .second, .val (.long x9), .second, .val (.ref x11), .val (.int x12), .val (.int x13), .val (.int x14), .val (.int x15), .unset]
abbrev a_I6RJsJsRI5 (x0 : Int32) (x1 : Int32) (x2 : Int32) (x3 : Int32) (x4 : Int32) (x5 : Int32) (x6 : Addr) (x7 : Int64) (x9 : Int64) (x11 : Addr) (x12 : Int32) (x13 : Int32) (x14 : Int32) (x15 : Int32) (x16 : Int32) : Array Slot := #[.val (.int x0), .val (.int x1), .val (.int x2), .val (.int x3), .val (.int x4), .val (.int x5), .val (.ref x6), .val (.long x7), .second, .val (.long x9), .second, .val (.ref x11), .val (.int x12), .val (.int x13), .val (.int x14), .val (.int x15), .val (.int x16)]
abbrev y_0 : MethodName := (⟨"java/lang/Math", "max", "(II)I"⟩ : MethodName)
abbrev y_1 : MethodName := (⟨"java/lang/Math", "min", "(II)I"⟩ : MethodName)
abbrev y_2 : MethodName := (⟨"jdk/internal/util/ArraysSupport", "newLength", "(III)I"⟩ : MethodName)
abbrev y_3 : MethodName := (⟨"java/lang/AbstractStringBuilder", "newCapacity", "(I)I"⟩ : MethodName)
abbrev y_4 : MethodName := (⟨"java/util/Arrays", "copyOf", "([BI)[B"⟩ : MethodName)
abbrev y_5 : MethodName := (⟨"java/lang/AbstractStringBuilder", "ensureCapacityInternal", "(I)V"⟩ : MethodName)
abbrev y_6 : MethodName := (⟨"java/lang/String", "coder", "()B"⟩ : MethodName)
abbrev y_7 : MethodName := (⟨"java/lang/String", "length", "()I"⟩ : MethodName)
abbrev y_8 : MethodName := (⟨"java/lang/AbstractStringBuilder", "inflateIfNeededFor", "(Ljava/lang/String;)V"⟩ : MethodName)
abbrev y_9 : MethodName := (⟨"java/lang/String", "getBytes", "([BIB)V"⟩ : MethodName)
abbrev y_10 : MethodName := (⟨"java/lang/AbstractStringBuilder", "putStringAt", "(ILjava/lang/String;)V"⟩ : MethodName)
abbrev y_11 : MethodName := (⟨"java/lang/AbstractStringBuilder", "append", "(Ljava/lang/String;)Ljava/lang/AbstractStringBuilder;"⟩ : MethodName)
abbrev y_12 : MethodName := (⟨"java/lang/StringBuilder", "append", "(Ljava/lang/String;)Ljava/lang/StringBuilder;"⟩ : MethodName)
abbrev y_13 : MethodName := (⟨"java/lang/Long", "stringSize", "(J)I"⟩ : MethodName)
abbrev y_14 : MethodName := (⟨"java/lang/Long", "getChars", "(JI[B)I"⟩ : MethodName)
abbrev y_15 : MethodName := (⟨"java/lang/AbstractStringBuilder", "isLatin1", "()Z"⟩ : MethodName)
abbrev y_16 : MethodName := (⟨"java/lang/AbstractStringBuilder", "append", "(J)Ljava/lang/AbstractStringBuilder;"⟩ : MethodName)
abbrev y_17 : MethodName := (⟨"java/lang/StringBuilder", "append", "(J)Ljava/lang/StringBuilder;"⟩ : MethodName)
abbrev y_18 : MethodName := (⟨"java/lang/Integer", "stringSize", "(I)I"⟩ : MethodName)
abbrev y_19 : MethodName := (⟨"java/lang/Integer", "getChars", "(II[B)I"⟩ : MethodName)
abbrev y_20 : MethodName := (⟨"java/lang/AbstractStringBuilder", "append", "(I)Ljava/lang/AbstractStringBuilder;"⟩ : MethodName)
abbrev y_21 : MethodName := (⟨"java/lang/StringBuilder", "append", "(I)Ljava/lang/StringBuilder;"⟩ : MethodName)
abbrev y_22 : MethodName := (⟨"java/lang/StringLatin1", "canEncode", "(C)Z"⟩ : MethodName)
abbrev y_23 : MethodName := (⟨"java/lang/AbstractStringBuilder", "append", "(C)Ljava/lang/AbstractStringBuilder;"⟩ : MethodName)
abbrev y_24 : MethodName := (⟨"java/lang/StringBuilder", "append", "(C)Ljava/lang/StringBuilder;"⟩ : MethodName)
abbrev y_25 : MethodName := (⟨"java/lang/AbstractStringBuilder", "<init>", "(I)V"⟩ : MethodName)
abbrev y_26 : MethodName := (⟨"java/lang/StringBuilder", "<init>", "()V"⟩ : MethodName)
abbrev y_27 : MethodName := (⟨"java/lang/AbstractStringBuilder", "getValue", "()[B"⟩ : MethodName)
abbrev y_28 : MethodName := (⟨"java/lang/AbstractStringBuilder", "length", "()I"⟩ : MethodName)
abbrev y_29 : MethodName := (⟨"java/lang/StringBuilder", "length", "()I"⟩ : MethodName)
abbrev y_30 : MethodName := (⟨"java/util/Arrays", "checkLength", "(II)V"⟩ : MethodName)
abbrev y_31 : MethodName := (⟨"java/util/Arrays", "copyOfRangeByte", "([BII)[B"⟩ : MethodName)
abbrev y_32 : MethodName := (⟨"java/util/Arrays", "copyOfRange", "([BII)[B"⟩ : MethodName)
abbrev y_33 : MethodName := (⟨"java/lang/String", "<init>", "(Ljava/lang/AbstractStringBuilder;Ljava/lang/Void;)V"⟩ : MethodName)
abbrev y_34 : MethodName := (⟨"java/lang/String", "<init>", "(Ljava/lang/StringBuilder;)V"⟩ : MethodName)
abbrev y_35 : MethodName := (⟨"java/lang/StringBuilder", "toString", "()Ljava/lang/String;"⟩ : MethodName)
abbrev y_36 : MethodName := (⟨"java/lang/Math", "max", "(JJ)J"⟩ : MethodName)
abbrev y_37 : MethodName := (⟨"java/lang/Math", "abs", "(J)J"⟩ : MethodName)
abbrev y_38 : MethodName := (⟨"java/lang/Math", "multiplyExact", "(JJ)J"⟩ : MethodName)
abbrev y_39 : MethodName := (⟨"com/example/liken/liken/cli/IndexSummary", "<init>", "()V"⟩ : MethodName)
abbrev y_40 : MethodName := (⟨"com/example/liken/liken/cli/IndexSummary", "indexed", "(II)V"⟩ : MethodName)
abbrev y_41 : MethodName := (⟨"com/example/liken/liken/cli/IndexSummary", "lines", "(J)Ljava/lang/String;"⟩ : MethodName)
abbrev y_42 : MethodName := (⟨"jdk/internal/util/Preconditions", "checkIndex", "(IILjava/util/function/BiFunction;)I"⟩ : MethodName)
abbrev y_43 : MethodName := (⟨"java/lang/String", "checkIndex", "(II)V"⟩ : MethodName)
abbrev y_44 : MethodName := (⟨"java/lang/StringLatin1", "charAt", "([BI)C"⟩ : MethodName)
abbrev y_45 : MethodName := (⟨"java/lang/String", "isLatin1", "()Z"⟩ : MethodName)
abbrev y_46 : MethodName := (⟨"java/lang/String", "charAt", "(I)C"⟩ : MethodName)
abbrev y_47 : MethodName := (⟨"com/example/liken/liken/cli/IndexSummaryIndexedPinLaw", "digits", "(J)I"⟩ : MethodName)
abbrev y_48 : MethodName := (⟨"com/example/liken/liken/cli/IndexSummaryIndexedPinLaw", "len", "(J)I"⟩ : MethodName)
abbrev y_49 : MethodName := (⟨"com/example/liken/liken/cli/IndexSummaryIndexedPinLaw", "num", "(Ljava/lang/String;IJ)Z"⟩ : MethodName)
abbrev R_0 : Room := ({ frames := 0, cells := 0, slots := 0, locals := 0 } : Room)
abbrev R_1 : Room := ({ frames := 1, cells := 0, slots := 0, locals := 14 } : Room)
abbrev R_2 : Room := ({ frames := 2, cells := 0, slots := 0, locals := 29 } : Room)
abbrev R_3 : Room := ({ frames := 1, cells := 1, slots := 200, locals := 18 } : Room)
abbrev R_4 : Room := ({ frames := 3, cells := 1, slots := 200, locals := 48 } : Room)
abbrev R_5 : Room := ({ frames := 1, cells := 0, slots := 0, locals := 13 } : Room)
abbrev R_6 : Room := ({ frames := 1, cells := 0, slots := 0, locals := 18 } : Room)
abbrev R_7 : Room := ({ frames := 2, cells := 0, slots := 0, locals := 33 } : Room)
abbrev R_8 : Room := ({ frames := 4, cells := 1, slots := 200, locals := 62 } : Room)
abbrev R_9 : Room := ({ frames := 5, cells := 1, slots := 200, locals := 76 } : Room)
abbrev R_10 : Room := ({ frames := 5, cells := 1, slots := 200, locals := 78 } : Room)
abbrev R_11 : Room := ({ frames := 5, cells := 1, slots := 200, locals := 77 } : Room)
abbrev R_12 : Room := ({ frames := 5, cells := 1, slots := 200, locals := 75 } : Room)
abbrev R_13 : Room := ({ frames := 1, cells := 1, slots := 16, locals := 12 } : Room)
abbrev R_14 : Room := ({ frames := 2, cells := 1, slots := 16, locals := 25 } : Room)
abbrev R_15 : Room := ({ frames := 1, cells := 0, slots := 0, locals := 12 } : Room)
abbrev R_16 : Room := ({ frames := 2, cells := 1, slots := 200, locals := 34 } : Room)
abbrev R_17 : Room := ({ frames := 3, cells := 1, slots := 200, locals := 49 } : Room)
abbrev R_18 : Room := ({ frames := 4, cells := 1, slots := 200, locals := 65 } : Room)
abbrev R_19 : Room := ({ frames := 5, cells := 2, slots := 204, locals := 79 } : Room)
abbrev R_20 : Room := ({ frames := 6, cells := 28, slots := 2856, locals := 92 } : Room)
abbrev R_21 : Room := ({ frames := 2, cells := 0, slots := 0, locals := 27 } : Room)
abbrev R_22 : Room := ({ frames := 3, cells := 0, slots := 0, locals := 40 } : Room)
abbrev R_23 : Room := ({ frames := 4, cells := 0, slots := 0, locals := 53 } : Room)
theorem own_eqV {args : Array Value} {first s : State} {o : Option Outcome} {idx : List Nat} {a b : Term} {y : Value} (h : (Jvm.Cond.eq a b).value args first o s idx = some true) (hb : b.eval args first o idx s = some y) : a.eval args first o idx s = some y := by
  cases ha : a.eval args first o idx s with
  | none => simp [Jvm.Cond.value, ha] at h
  | some x => cases x <;> cases y <;> simp_all [Jvm.Cond.value]
theorem own_len {args : Array Value} {s : State} {t : Term} {a : Addr} {cl : Cell} {ty : FieldType} {k : Int32} (A : Arr s s.heap a cl ty) (ev : t.eval args s none [] s = some (.ref a)) (h : (Term.length t).eval args s none [] s = some (.int k)) : cl.slots.size < 2 ^ 31 ∧ cl.slots.size.toInt32 = k := by
  have ha : s.arrayAt? a = some cl := IntBox.arrayAt_of A.1 A.2.1 A.2.2
  simp [Term.eval, ev, ha] at h
  exact h

theorem own_neI {args : Array Value} {first s : State} {o : Option Outcome} {idx : List Nat} {a : Term} {x k : Int32} (h : (Jvm.Cond.eq a (Term.int k)).value args first o s idx = some (!true)) (ha : a.eval args first o idx s = some (.int x)) : ¬ (x = k) := by
  intro q
  have hb : (Term.int k).eval args first o idx s = some (.int k) := rfl
  simp [Jvm.Cond.value, ha, hb, q] at h
theorem own_staKeep {Z : State} {h h' : Heap} {C n d : String} {v : Value} {ws : List Addr} (F : Sta Z h C n d v) (K : Keep h h' ws) (q : ∀ x ∈ ws, ∀ c : Cell, h[x]? = some c → c.vm.isStatics = false) : Sta Z h' C n d v := by
  obtain ⟨cf, i, k, f, st, cell, h1, h2, h3, h4, h5, h6, h7⟩ := F
  refine ⟨cf, i, k, f, st, cell, h1, h2, h3, h4, K.2.1 st cell h5 (fun hm => ?_), h6, h7⟩
  have := q st hm cell h5
  rw [this] at h6
  cases h6
theorem own_plainE {Z : State} {h : Heap} {x : Addr} {C : String} (E : Exa Z h x C) : ∀ c : Cell, h[x]? = some c → c.vm.isStatics = false := by
  obtain ⟨cell, k, h1, h2, h3, h4, h5⟩ := E
  intro c hc
  rw [h1] at hc
  cases hc
  exact h4
theorem own_plainV {Z : State} {h : Heap} {a : Addr} {k : ClassId} {ty : FieldType} {z : Int32} {vs : List Value} {d : Value} (F : Arv Z h a k ty z vs d) : ∀ c : Cell, h[a]? = some c → c.vm.isStatics = false := by
  obtain ⟨cell, A, -⟩ := F
  intro c hc
  rw [A.1] at hc
  cases hc
  exact A.plain

theorem own_wS {Z : State} {a0 : Array Value} (hw : ∀ d ∈ tables_1, d.before a0 Z = true) : ∀ a ∈ Bundle.stringAtoms, a.before a0 Z = true := by
  intro a ha
  simp only [Bundle.stringAtoms, List.mem_cons, List.not_mem_nil, or_false] at ha
  rcases ha with rfl | rfl | rfl | rfl | rfl | rfl | rfl
  · exact (wd hw 30 rfl)
  · exact (wd hw 37 rfl)
  · exact (wd hw 31 rfl)
  · exact (wd hw 38 rfl)
  · exact (wd hw 39 rfl)
  · exact (wd hw 40 rfl)
  · exact (wd hw 41 rfl)
theorem own_selPriv {s : State} {args : Array Value} {C : String} {y : MethodName} (hsel : (Cond.selects C y y).before args s = true) (hinst : (Cond.instanceMethod y).before args s = true) (hpriv : s.PrivateAt y) (hy : y.cls ≠ "java/lang/invoke/MethodHandle" ∧ y.cls ≠ "java/lang/invoke/VarHandle") : (Cond.selects y.cls y y).before args s = true := by
  obtain ⟨c2, r2, m2, -, -, q3, -, kP, hkP, hkPi⟩ := Cond.selects_spec hsel
  exact selects_self_of_private (findClass_of_methodNamed q3) hkP hkPi hpriv hinst hy
theorem own_sameM {s : State} {args : Array Value} {C : String} {y z : MethodName} (hd : (Cond.declares y).before args s = true) (hsel : (Cond.selects C z z).before args s = true) (hz : z.cls = y.cls) (hy : y.cls ≠ "java/lang/invoke/MethodHandle" ∧ y.cls ≠ "java/lang/invoke/VarHandle") : (Cond.sameMethod y.cls y.cls y.name y.desc).before args s = true := by
  obtain ⟨r0, r, hn, -, -, -⟩ := Cond.declares_spec hd
  obtain ⟨c2, r2, m2, -, -, q3, -, kP, hkP, hkPi⟩ := Cond.selects_spec hsel
  have h1 := findClass_of_methodNamed hn
  have h2 := findClass_of_methodNamed q3
  rw [hz] at h2
  have e : m2.cls = r0.cls := Option.some.inj (h2.symm.trans h1)
  rw [e] at hkP
  have hf : s.methodFound? y.cls y.name y.desc = some r0 := State.methodFound?_of_named hn hy
  have hn' : s.methodNamed? ⟨y.cls, y.name, y.desc⟩ = some r0 := hn
  simp [Cond.before, Cond.holds, Cond.value, h1, hf, hn', hkP, hkPi]
def own_v (bs : List Int32) : List Value := bs.map Value.int
theorem own_vlen (bs : List Int32) : (own_v bs).length = bs.length := by simp [own_v]
theorem own_shr0 (x : Int32) : (x >>> ((0 : Int32) &&& 31)) = x := by
  have : ((0 : Int32) &&& 31) = 0 := by decide
  rw [this]; simp
theorem own_shl0 (x : Int32) : (x <<< ((0 : Int32) &&& 31)) = x := by
  have : ((0 : Int32) &&& 31) = 0 := by decide
  rw [this]; simp
def own_max (x y : Int32) : Int32 := if x < y then y else x
def own_min (x y : Int32) : Int32 := if y < x then y else x
theorem own_maxI (x y : Int32) : (own_max x y).toInt = max x.toInt y.toInt := by
  unfold own_max
  by_cases h : x < y
  · rw [if_pos h]; rw [Int32.lt_iff_toInt_lt] at h; omega
  · rw [if_neg h]; rw [Int32.lt_iff_toInt_lt] at h; omega
theorem own_minI (x y : Int32) : (own_min x y).toInt = min x.toInt y.toInt := by
  unfold own_min
  by_cases h : y < x
  · rw [if_pos h]; rw [Int32.lt_iff_toInt_lt] at h; omega
  · rw [if_neg h]; rw [Int32.lt_iff_toInt_lt] at h; omega
theorem own_lt {x y : Int32} (h : y.toInt ≤ x.toInt) : ¬ (x < y) := by rw [Int32.lt_iff_toInt_lt]; omega
theorem own_lt' {x y : Int32} (h : x.toInt < y.toInt) : x < y := by rw [Int32.lt_iff_toInt_lt]; exact h
theorem own_nat {z : Int32} (h : 0 ≤ z.toInt) : (z.toNatClampNeg : Int) = z.toInt := by simp only [Int32.toNatClampNeg]; omega
/-- a whole copy into a fresh array -/
theorem own_copy (bs : List Int32) (n : Nat) (hn : bs.length ≤ n) : ∀ i, (own_v bs).getD i (.int 0) = ((List.replicate n (Value.int 0)).take 0 ++ ((List.range n).map fun i => (own_v bs).getD (0 + i) (.int 0)) ++ (List.replicate n (Value.int 0)).drop (0 + n)).getD i (.int 0) := by
  intro i
  simp only [List.take_zero, List.nil_append, Nat.zero_add, List.drop_replicate, Nat.sub_self, List.replicate_zero, List.append_nil]
  by_cases h : i < n
  · simp [List.getD, h]
  · have h2 : (own_v bs).length ≤ i := by rw [own_vlen]; omega
    simp [List.getD, h, List.getElem?_eq_none h2]
/-- the bytes of a text behind the bytes so far -/
theorem own_apnd (bs cs : List Int32) : ((own_v bs ++ List.replicate cs.length (Value.int 0)).take bs.length ++ ((List.range cs.length).map fun i => (own_v cs).getD (0 + i) (.int 0)) ++ (own_v bs ++ List.replicate cs.length (Value.int 0)).drop (bs.length + cs.length)) = own_v (bs ++ cs) := by
  have h1 : (own_v bs ++ List.replicate cs.length (Value.int 0)).take bs.length = own_v bs := by rw [← own_vlen bs]; simp
  have h2 : ((List.range cs.length).map fun i => (own_v cs).getD (0 + i) (.int 0)) = own_v cs := by
    apply List.ext_getElem?
    intro i
    by_cases h : i < cs.length
    · simp [own_v, List.getD, h]
    · simp [own_v, h]
  have h3 : (own_v bs ++ List.replicate cs.length (Value.int 0)).drop (bs.length + cs.length) = [] := by
    apply List.drop_eq_nil_of_le
    simp [own_v]
  rw [h1, h2, h3]
  simp [own_v]
theorem own_rel {x y n : Nat} {h : Heap} (r : x = y ∨ h.size ≤ x) (g : n ≤ y) (k : n ≤ h.size) : n ≤ x := by
  rcases r with r | r
  · rw [r]; exact g
  · exact Nat.le_trans k r
theorem own_kp {x y n : Nat} {h : Heap} {ws : List Nat} (r : x = y ∨ h.size ≤ x) (g : y ∈ ws ∨ n ≤ y) (k : n ≤ h.size) : x ∈ ws ∨ n ≤ x := by
  rcases r with r | r
  · rw [r]; exact g
  · exact Or.inr (Nat.le_trans k r)
theorem own_gr {p z : Int32} (h : (0 : Int32) < p - z) (hz : 0 ≤ z.toInt ∧ z.toInt ≤ 200) (hp : 0 ≤ p.toInt ∧ p.toInt ≤ 100) : z.toInt < p.toInt := by
  rw [Int32.lt_iff_toInt_lt] at h
  have a := c_isub p z
  have r := rng32 (p - z)
  have e : (0 : Int32).toInt = 0 := rfl
  omega
theorem own_ngr {p z : Int32} (h : ¬ (0 : Int32) < p - z) (hz : 0 ≤ z.toInt ∧ z.toInt ≤ 200) (hp : 0 ≤ p.toInt ∧ p.toInt ≤ 100) : p.toInt ≤ z.toInt := by
  rw [Int32.lt_iff_toInt_lt] at h
  have a := c_isub p z
  have r := rng32 (p - z)
  have e : (0 : Int32).toInt = 0 := rfl
  omega
theorem own_nc {p z : Int32} (hz : 0 ≤ z.toInt) (h : z.toInt < p.toInt) (hp : p.toInt ≤ 100) : p.toInt ≤ (z + own_max (p - z) (z + (2 : Int32))).toInt ∧ (z + own_max (p - z) (z + (2 : Int32))).toInt ≤ 200 := by
  have a := c_isub p z
  have r := rng32 (p - z)
  have b := c_iadd z 2
  have r2 := rng32 (z + (2 : Int32))
  have e : (2 : Int32).toInt = 2 := rfl
  have d := own_maxI (p - z) (z + (2 : Int32))
  have f := c_iadd z (own_max (p - z) (z + (2 : Int32)))
  have r3 := rng32 (z + own_max (p - z) (z + (2 : Int32)))
  omega
theorem own_eq {x y : Int32} (h : x.toInt ≠ y.toInt) : ¬ (x = y) := fun q => h (by rw [q])
theorem own_minL {z p : Int32} (h : z.toInt < p.toInt) : own_min z p = z := if_neg (own_lt (by omega))
theorem own_sum {x y : Int32} {a b : Nat} (h1 : x.toInt = (a : Int)) (h2 : y.toInt = (b : Int)) (h : a + b ≤ 1000) : (x + y).toInt = ((a + b : Nat) : Int) := by
  have q := c_iadd x y
  have r := rng32 (x + y)
  omega
theorem own_neRel {d x y : Nat} {h : Heap} (r : x = y ∨ h.size ≤ x) (n : d ≠ y) (k : d < h.size) : d ≠ x := by
  rcases r with r | r
  · rw [r]; exact n
  · omega
theorem own_sub0 (x : Int32) : (x - (0 : Int32)) = x := by simp
theorem own_minR {z p : Int32} (h : p.toInt ≤ z.toInt) : own_min z p = p := by
  unfold own_min
  by_cases q : p < z
  · rw [if_pos q]
  · rw [if_neg q]
    rw [Int32.lt_iff_toInt_lt] at q
    exact Int32.toInt_inj.mp (by omega)
theorem own_nf {s : State} {args : Array Value} {C : String} {y z : MethodName} (hsel : (Cond.selects C z z).before args s = true) (hz : z.cls = y.cls) : NotFace s y := fun r hn => by
  obtain ⟨c2, r2, m2, -, -, q3, -, kP, hkP, hkPi⟩ := Cond.selects_spec hsel
  have h1 := findClass_of_methodNamed hn
  have h2 := findClass_of_methodNamed q3
  rw [hz] at h2
  have e : m2.cls = r.cls := Option.some.inj (h2.symm.trans h1)
  exact ⟨kP, by rw [← e]; exact hkP, hkPi⟩
def own_dg (m : Nat) : List Int32 := if m < 10 then [Int32.ofNat (48 + m)] else own_dg (m / 10) ++ [Int32.ofNat (48 + m % 10)]
termination_by m
decreasing_by omega
theorem own_dg1 {m : Nat} (h : m < 10) : own_dg m = [Int32.ofNat (48 + m)] := by rw [own_dg, if_pos h]
theorem own_dgS {m : Nat} (h : ¬ m < 10) : own_dg m = own_dg (m / 10) ++ [Int32.ofNat (48 + m % 10)] := by rw [own_dg, if_neg h]
theorem own_dg2 {m : Nat} (h : 10 ≤ m) (h2 : m < 100) : own_dg m = [Int32.ofNat (48 + m / 10), Int32.ofNat (48 + m % 10)] := by
  rw [own_dgS (by omega), own_dg1 (by omega)]; rfl
theorem own_dg100 {m : Nat} (h : 100 ≤ m) : own_dg m = own_dg (m / 100) ++ [Int32.ofNat (48 + m % 100 / 10), Int32.ofNat (48 + m % 100 % 10)] := by
  rw [own_dgS (by omega), own_dgS (m := m / 10) (by omega), Nat.div_div_eq_div_mul, List.append_assoc]
  have e1 : m / 10 % 10 = m % 100 / 10 := by omega
  have e2 : m % 10 = m % 100 % 10 := by omega
  rw [e1, e2]; rfl
theorem own_dgPos (m : Nat) : 1 ≤ (own_dg m).length := by
  by_cases h : m < 10
  · rw [own_dg1 h]; simp
  · rw [own_dgS h]; simp
theorem own_dgLen : ∀ (k m : Nat), m < 10 ^ (k + 1) → (k = 0 ∨ 10 ^ k ≤ m) → (own_dg m).length = k + 1 := by
  intro k
  induction k with
  | zero => intro m h _; rw [own_dg1 (by simpa using h)]; rfl
  | succ k ih =>
    intro m h h2
    have h3 : 10 ^ (k + 1) ≤ m := h2.resolve_left (by omega)
    have h4 : 10 ≤ m := Nat.le_trans (by rw [Nat.pow_succ]; exact Nat.le_mul_of_pos_left 10 (Nat.pos_of_ne_zero (by simp))) h3
    rw [own_dgS (by omega), List.length_append, ih (m / 10)]
    · rfl
    · rw [Nat.div_lt_iff_lt_mul (by decide)]; rw [Nat.pow_succ] at h; exact h
    · right; rw [Nat.le_div_iff_mul_le (by decide)]; rw [Nat.pow_succ] at h3; exact h3
def own_sd (v : Int64) : List Int32 := if v.toInt < 0 then 45 :: own_dg (-v.toInt).toNat else own_dg v.toInt.toNat
def own_sz (v : Int64) : Int32 := Int32.ofNat (own_sd v).length
theorem own_sdN {v : Int64} {m : Nat} (h : v.toInt < 0) (e : v.toInt = -(m : Int)) : own_sd v = 45 :: own_dg m := by
  unfold own_sd; rw [if_pos h, e]; simp
theorem own_sdP {v : Int64} {m : Nat} (e : v.toInt = (m : Int)) : own_sd v = own_dg m := by
  unfold own_sd; rw [if_neg (by omega), e]; simp
def own_ones : List Value := (List.range 100).map fun j => Value.int (Int32.ofNat (48 + j % 10))
def own_tens : List Value := (List.range 100).map fun j => Value.int (Int32.ofNat (48 + j / 10))
theorem own_onesAt {j : Nat} (h : j < 100) (d : Value) : own_ones.getD j d = .int (Int32.ofNat (48 + j % 10)) := by simp [own_ones, List.getD, h]
theorem own_tensAt {j : Nat} (h : j < 100) (d : Value) : own_tens.getD j d = .int (Int32.ofNat (48 + j / 10)) := by simp [own_tens, List.getD, h]
theorem own_b {n : Nat} (h : n < 128) : (Int32.ofNat n).toInt8.toInt32 = Int32.ofNat n := by
  have a := c_i2b (Int32.ofNat n)
  have e : (Int32.ofNat n).toInt = n := Int32.toInt_ofNat_of_lt (by omega)
  exact Int32.toInt_inj.mp (by omega)
def own_buf (bs : List Int32) (r : Nat) (tl : List Int32) : List Value := own_v bs ++ (List.replicate r (Value.int 0) ++ own_v tl)
theorem own_bufLen (bs : List Int32) (r : Nat) (tl : List Int32) : (own_buf bs r tl).length = bs.length + r + tl.length := by simp [own_buf, own_v]; omega
theorem own_buf0 (bs tl : List Int32) : own_buf bs 0 tl = own_v (bs ++ tl) := by simp [own_buf, own_v]
theorem own_bufPad (bs : List Int32) (r : Nat) : ∀ i, (own_buf bs r []).getD i (.int 0) = (own_v bs).getD i (.int 0) := by
  intro i
  have := pad_rep (own_v bs) (.int 0) r i
  simpa [own_buf, own_v] using this
theorem own_bufSet (bs : List Int32) (r : Nat) (x : Int32) (tl : List Int32) : (own_buf bs (r + 1) tl).set (bs.length + r) (.int x) = own_buf bs r (x :: tl) := by
  unfold own_buf
  rw [List.set_append_right _ _ (by rw [own_vlen]; omega), own_vlen, Nat.add_sub_cancel_left, List.replicate_succ', List.append_assoc, List.set_append_right _ _ (by simp)]
  simp [own_v]
/-- a digit is laid at the end of what is left -/
theorem own_st {bs : List Int32} {r r' i : Nat} {x : Int32} {tl : List Int32} (hr : r' = r + 1) (hi : i = bs.length + r) : (own_buf bs r' tl).set i (.int x) = own_buf bs r (x :: tl) := by
  rw [hr, hi]; exact own_bufSet bs r x tl
theorem own_div {j : Int32} {m : Nat} (e : j.toInt = -(m : Int)) (hm : m < 2147483648) : (j / (100 : Int32)).toInt = -((m / 100 : Nat) : Int) ∧ ((j / (100 : Int32)) * (100 : Int32) - j).toInt = ((m % 100 : Nat) : Int) := by
  have h := (c_idiv j 100 100 rfl (by decide)).2
  have e1 : (100 : Int32).toInt = 100 := rfl
  have q : (j / (100 : Int32)).toInt = -((m / 100 : Nat) : Int) := by
    by_cases h0 : j.toInt < 0
    · have := h h0; omega
    · have := (c_idiv j 100 100 rfl (by decide)).1 (by omega); omega
  refine ⟨q, ?_⟩
  have a := c_imul (j / (100 : Int32)) 100
  have b := c_isub ((j / (100 : Int32)) * (100 : Int32)) j
  have r1 := rng32 ((j / (100 : Int32)) * (100 : Int32))
  have r2 := rng32 ((j / (100 : Int32)) * (100 : Int32) - j)
  rw [q, e1] at a
  omega
theorem own_dec {x : Int32} {P : Int} (h : x.toInt = P) (h0 : 0 ≤ P) : (x + (-1 : Int32)).toInt = P - 1 := by
  have a := c_iadd x (-1)
  have e : (-1 : Int32).toInt = -1 := rfl
  have r := rng32 x
  have r2 := rng32 (x + (-1 : Int32))
  omega
theorem own_ldiv {x : Int64} {m : Nat} (e : x.toInt = -(m : Int)) (hm : m ≤ 4294967296) : (x / (100 : Int64)).toInt = -((m / 100 : Nat) : Int) ∧ (((x / (100 : Int64)) * (100 : Int64) - x).toInt32).toInt = ((m % 100 : Nat) : Int) := by
  have h := (c_ldiv x 100 100 rfl (by decide)).2
  have e1 : (100 : Int64).toInt = 100 := rfl
  have q : (x / (100 : Int64)).toInt = -((m / 100 : Nat) : Int) := by
    by_cases h0 : x.toInt < 0
    · have := h h0; omega
    · have := (c_ldiv x 100 100 rfl (by decide)).1 (by omega); omega
  refine ⟨q, ?_⟩
  have a := c_lmul (x / (100 : Int64)) 100
  have b := c_lsub ((x / (100 : Int64)) * (100 : Int64)) x
  have d := c_l2i ((x / (100 : Int64)) * (100 : Int64) - x)
  have r1 := rng64 ((x / (100 : Int64)) * (100 : Int64))
  have r2 := rng64 ((x / (100 : Int64)) * (100 : Int64) - x)
  have r3 := rng32 (((x / (100 : Int64)) * (100 : Int64) - x).toInt32)
  rw [q, e1] at a
  omega
theorem own_l2i {x : Int64} {m : Nat} (e : x.toInt = -(m : Int)) (hm : m < 2147483648) : (x.toInt32).toInt = -(m : Int) := by
  have d := c_l2i x
  have r := rng32 x.toInt32
  omega
theorem own_neg {x : Int32} {m : Nat} (e : x.toInt = -(m : Int)) (hm : m < 2147483648) : (-x).toInt = (m : Int) := by
  have d := c_ineg x
  have r := rng32 (-x)
  omega
theorem own_lnegM {x : Int64} (h : ¬ (lcmpW x (0 : Int64) < (0 : Int32))) (hv : x.toInt ≤ 4294967296) : 0 ≤ x.toInt ∧ (-x).toInt = -((x.toInt.toNat : Nat) : Int) := by
  rw [lw_lt, Int64.lt_iff_toInt_lt] at h
  have e : (0 : Int64).toInt = 0 := rfl
  have d := c_lneg x
  have r := rng64 x
  have r2 := rng64 (-x)
  omega
theorem own_lneg0 {x : Int64} (h : lcmpW x (0 : Int64) < (0 : Int32)) : x.toInt < 0 := by
  rw [lw_lt, Int64.lt_iff_toInt_lt] at h
  exact h
theorem own_szI {v : Int64} (h : (own_sd v).length ≤ 1000) : (own_sz v).toInt = ((own_sd v).length : Int) := by
  unfold own_sz
  exact Int32.toInt_ofNat_of_lt (by omega)
def own_d1 (x : Int32) : Int32 := Int32.ofNat (48 + x.toNatClampNeg)
theorem own_negI {x : Int32} (h : 0 ≤ x.toInt ∧ x.toInt ≤ 9) : (-x).toInt = -x.toInt ∧ (-(-x)) = x := by
  have a := c_ineg x
  have r := rng32 (-x)
  have b := c_ineg (-x)
  have r2 := rng32 (-(-x))
  refine ⟨by omega, Int32.toInt_inj.mp (by omega)⟩
theorem own_mulE {x : Int64} (h : -4294967296 ≤ x.toInt ∧ x.toInt ≤ 4294967296) : (x * (1000000000 : Int64)).toInt = x.toInt * 1000000000 ∧ (x * (1000000000 : Int64)) / (1000000000 : Int64) = x := by
  have a := c_lmul x 1000000000
  have e : (1000000000 : Int64).toInt = 1000000000 := rfl
  have r := rng64 (x * (1000000000 : Int64))
  rw [e] at a
  have q : (x * (1000000000 : Int64)).toInt = x.toInt * 1000000000 := by omega
  refine ⟨q, Int64.toInt_inj.mp ?_⟩
  have d := c_ldiv (x * (1000000000 : Int64)) 1000000000 1000000000 rfl (by decide)
  by_cases h0 : 0 ≤ (x * (1000000000 : Int64)).toInt
  · rw [d.1 h0]; omega
  · rw [d.2 (by omega)]; omega
theorem own_dgAt : ∀ (j m : Nat), j < (own_dg m).length → (own_dg m)[(own_dg m).length - 1 - j]? = some (Int32.ofNat (48 + m / 10 ^ j % 10)) := by
  intro j
  induction j with
  | zero =>
    intro m h
    by_cases hm : m < 10
    · rw [own_dg1 hm]; simp [Nat.mod_eq_of_lt hm]
    · rw [own_dgS hm]; simp
  | succ j ih =>
    intro m h
    by_cases hm : m < 10
    · rw [own_dg1 hm] at h; simp at h
    · rw [own_dgS hm] at h ⊢
      rw [List.length_append] at h ⊢
      have h1 : j < (own_dg (m / 10)).length := by simp at h; exact h
      have e : (own_dg (m / 10)).length + [Int32.ofNat (48 + m % 10)].length - 1 - (j + 1) = (own_dg (m / 10)).length - 1 - j := by simp; omega
      rw [e, List.getElem?_append_left (by omega), ih (m / 10) h1, Nat.div_div_eq_div_mul, Nat.pow_succ, Nat.mul_comm]
def own_labs (x : Int64) : Int64 := if lcmpW x (0 : Int64) < (0 : Int32) then -x else x
theorem own_sdLen {v : Int64} (h : -4294967296 ≤ v.toInt ∧ v.toInt ≤ 4294967296) : 1 ≤ (own_sd v).length ∧ (own_sd v).length ≤ 11 := by
  have key : ∀ m : Nat, m < 10000000000 → (own_dg m).length ≤ 10 := by
    intro m hm
    by_cases h9 : 1000000000 ≤ m
    · rw [own_dgLen 9 m (by simpa using hm) (Or.inr (by simpa using h9))]; omega
    · have step : ∀ k m : Nat, m < 10 ^ (k + 1) → (own_dg m).length ≤ k + 1 := by
        intro k
        induction k with
        | zero => intro m hm; rw [own_dg1 (by simpa using hm)]; simp
        | succ k ih =>
          intro m hm
          by_cases h10 : m < 10
          · rw [own_dg1 h10]; simp
          · rw [own_dgS h10, List.length_append]
            have := ih (m / 10) (by rw [Nat.div_lt_iff_lt_mul (by decide)]; rw [Nat.pow_succ] at hm; exact hm)
            simp; omega
      have := step 8 m (by simp; omega)
      omega
  by_cases hn : v.toInt < 0
  · have q := key (-v.toInt).toNat (by omega)
    rw [own_sdN (m := (-v.toInt).toNat) hn (by omega)]
    simp; omega
  · have q := key v.toInt.toNat (by omega)
    have p := own_dgPos v.toInt.toNat
    rw [own_sdP (m := v.toInt.toNat) (by omega)]
    omega
theorem own_relS {Z : State} {EL : List (String × Nat)} {vm : Vm} {h : Heap} {x y : Addr} (r : x = y ∨ h.size ≤ x) (S : Safe Z EL vm h y) : Safe Z EL vm h x := by
  rcases r with r | r
  · rw [r]; exact S
  · exact Safe.new r
theorem own_small {e : Int32} {n : Nat} (h0 : 0 ≤ e.toInt) (hn : e.toInt < n) : ∃ k : Nat, k < n ∧ e = Int32.ofNat k := by
  refine ⟨e.toInt.toNat, by omega, ?_⟩
  apply Int32.toInt_inj.mp
  have hb := e.toInt_lt
  rw [Int32.toInt_ofNat_of_lt (by omega)]
  omega
theorem own_mask {x m : Int32} {n : Nat} (hm : 0 ≤ m.toInt) (hn : m.toInt < n) : ∃ k : Nat, k < n ∧ (x &&& m) = Int32.ofNat k := by
  have h := c_and x m hm
  exact own_small h.1 (by omega)
theorem own_modm {x y : Int32} {d : Int} {n : Nat} (hy : y.toInt = d) (hd : 0 < d) (hn : d ≤ n) : ∃ k : Nat, k < n ∧ ((x &&& (2147483647 : Int32)) % y) = Int32.ofNat k := by
  have h := c_and x 2147483647 (by decide)
  have h2 := (c_irem (x &&& 2147483647) y d hy).1 h.1
  refine own_small ?_ ?_ <;> rw [h2]
  · exact Int.emod_nonneg _ (by omega)
  · have := Int.emod_lt_of_pos (x &&& 2147483647).toInt hd
    omega

def own_dl (x : Int64) : Int32 := Int32.ofNat (own_dg x.toInt.toNat).length
theorem own_dgB {m : Nat} (h : m ≤ 4294967296) : 1 ≤ (own_dg m).length ∧ (own_dg m).length ≤ 11 := by
  have e : (Int64.ofNat m).toInt = (m : Int) := Int64.toInt_ofNat_of_lt (by omega)
  have q := own_sdLen (v := Int64.ofNat m) (by omega)
  rw [own_sdP e] at q
  exact q
theorem own_dlI {x : Int64} {m : Nat} (h : x.toInt = (m : Int)) (hm : m ≤ 4294967296) : (own_dl x).toInt = ((own_dg m).length : Int) := by
  have q := own_dgB hm
  have e : x.toInt.toNat = m := by omega
  unfold own_dl
  rw [e]
  exact Int32.toInt_ofNat_of_lt (by omega)
theorem own_lnegI {x : Int64} (h : x.toInt < 0) (hv : -4294967296 ≤ x.toInt) : (-x).toInt = (((-x.toInt).toNat : Nat) : Int) := by
  have d := c_lneg x
  have r := rng64 (-x)
  omega
theorem own_lenN {v : Int64} (h : lcmpW v (0 : Int64) < (0 : Int32)) (hv : -4294967296 ≤ v.toInt ∧ v.toInt ≤ 4294967296) : ((1 : Int32) + own_dl (-v)) = own_sz v := by
  have h0 := own_lneg0 h
  have e := own_dlI (own_lnegI h0 hv.1) (by omega)
  have b := own_dgB (m := (-v.toInt).toNat) (by omega)
  have q := own_szI (v := v) (by have := own_sdLen hv; omega)
  rw [own_sdN (m := (-v.toInt).toNat) h0 (by omega)] at q
  have a := c_iadd 1 (own_dl (-v))
  have r := rng32 ((1 : Int32) + own_dl (-v))
  have e1 : (1 : Int32).toInt = 1 := rfl
  refine Int32.toInt_inj.mp ?_
  rw [q, List.length_cons]
  omega
theorem own_lnn {v : Int64} (h : ¬ (lcmpW v (0 : Int64) < (0 : Int32))) : 0 ≤ v.toInt := by
  rw [lw_lt, Int64.lt_iff_toInt_lt] at h
  have e : (0 : Int64).toInt = 0 := rfl
  omega
theorem own_lenP {v : Int64} (h : ¬ (lcmpW v (0 : Int64) < (0 : Int32))) : ((0 : Int32) + own_dl v) = own_sz v := by
  have h0 := own_lnn h
  unfold own_dl own_sz
  rw [own_sdP (v := v) (m := v.toInt.toNat) (by omega)]
  simp
theorem own_numN {v : Int64} {p : Int32} {pn : Nat} {cl : List Int32} (h : lcmpW v (0 : Int64) < (0 : Int32)) (hv : -4294967296 ≤ v.toInt ∧ v.toInt ≤ 4294967296) (hp : p.toInt = (pn : Int)) (hq : pn ≤ 1000) (ha : ∀ j, j < (own_sd v).length → cl[pn + j]? = (own_sd v)[j]?) :
    ∃ mm eN : Nat, (-v).toInt = (mm : Int) ∧ mm ≤ 4294967296 ∧ (own_dl (-v)).toInt = ((own_dg mm).length : Int) ∧ (((p + (1 : Int32)) + own_dl (-v)) - (1 : Int32)).toInt = (eN : Int) ∧ ((own_dg mm).length ≤ eN + 1 ∧ eN ≤ 2000) ∧ (∀ j, j < (own_dg mm).length → cl[eN - j]? = some (Int32.ofNat (48 + mm / 10 ^ j % 10))) ∧ cl[pn]? = some 45 := by
  have h0 := own_lneg0 h
  have g1 := own_lnegI h0 hv.1
  have g2 : (-v.toInt).toNat ≤ 4294967296 := by omega
  have g3 := own_dlI g1 g2
  have b := own_dgB g2
  have e := own_sdN (m := (-v.toInt).toNat) h0 (by omega)
  have a1 := c_iadd p 1
  have r1 := rng32 (p + (1 : Int32))
  have a2 := c_iadd (p + (1 : Int32)) (own_dl (-v))
  have r2 := rng32 ((p + (1 : Int32)) + own_dl (-v))
  have a3 := c_isub ((p + (1 : Int32)) + own_dl (-v)) 1
  have r3 := rng32 (((p + (1 : Int32)) + own_dl (-v)) - (1 : Int32))
  have e1 : (1 : Int32).toInt = 1 := rfl
  rw [e] at ha
  refine ⟨_, pn + (own_dg (-v.toInt).toNat).length, g1, g2, g3, by omega, by omega, fun j hj => ?_, ?_⟩
  · have q := ha (1 + ((own_dg (-v.toInt).toNat).length - 1 - j)) (by rw [List.length_cons]; omega)
    rw [show pn + (1 + ((own_dg (-v.toInt).toNat).length - 1 - j)) = pn + (own_dg (-v.toInt).toNat).length - j by omega, Nat.add_comm 1, List.getElem?_cons_succ, own_dgAt j _ hj] at q
    exact q
  · have q := ha 0 (by rw [List.length_cons]; omega)
    exact q
theorem own_numP {v : Int64} {p : Int32} {pn : Nat} {cl : List Int32} (h : ¬ (lcmpW v (0 : Int64) < (0 : Int32))) (hv : -4294967296 ≤ v.toInt ∧ v.toInt ≤ 4294967296) (hp : p.toInt = (pn : Int)) (hq : pn ≤ 1000) (ha : ∀ j, j < (own_sd v).length → cl[pn + j]? = (own_sd v)[j]?) :
    ∃ mm eN : Nat, v.toInt = (mm : Int) ∧ mm ≤ 4294967296 ∧ (own_dl v).toInt = ((own_dg mm).length : Int) ∧ (((p + (0 : Int32)) + own_dl v) - (1 : Int32)).toInt = (eN : Int) ∧ ((own_dg mm).length ≤ eN + 1 ∧ eN ≤ 2000) ∧ (∀ j, j < (own_dg mm).length → cl[eN - j]? = some (Int32.ofNat (48 + mm / 10 ^ j % 10))) := by
  have h0 := own_lnn h
  have g1 : v.toInt = ((v.toInt.toNat : Nat) : Int) := by omega
  have g2 : v.toInt.toNat ≤ 4294967296 := by omega
  have g3 := own_dlI g1 g2
  have b := own_dgB g2
  have e := own_sdP g1
  have a1 := c_iadd p 0
  have r1 := rng32 (p + (0 : Int32))
  have a2 := c_iadd (p + (0 : Int32)) (own_dl v)
  have r2 := rng32 ((p + (0 : Int32)) + own_dl v)
  have a3 := c_isub ((p + (0 : Int32)) + own_dl v) 1
  have r3 := rng32 (((p + (0 : Int32)) + own_dl v) - (1 : Int32))
  have e1 : (1 : Int32).toInt = 1 := rfl
  have e0 : (0 : Int32).toInt = 0 := rfl
  rw [e] at ha
  refine ⟨_, pn + ((own_dg v.toInt.toNat).length - 1), g1, g2, g3, by omega, by omega, fun j hj => ?_⟩
  have q := ha ((own_dg v.toInt.toNat).length - 1 - j) (by omega)
  rw [show pn + ((own_dg v.toInt.toNat).length - 1 - j) = pn + ((own_dg v.toInt.toNat).length - 1) - j by omega, own_dgAt j _ hj] at q
  exact q
/-- the sign that the law wants of a digit -/
theorem own_chk {x : Int64} {n : Nat} (hm : x.toInt = (n : Int)) : (((48 : Int32) + (x - (x / (10 : Int64)) * (10 : Int64)).toInt32).toUInt32.toUInt16.toUInt32.toInt32) = Int32.ofNat (48 + n % 10) := by
  have d := (c_ldiv x 10 10 rfl (by decide)).1 (by omega)
  have e1 : (10 : Int64).toInt = 10 := rfl
  have a := c_lmul (x / (10 : Int64)) 10
  have r1 := rng64 ((x / (10 : Int64)) * (10 : Int64))
  have b := c_lsub x ((x / (10 : Int64)) * (10 : Int64))
  have r2 := rng64 (x - (x / (10 : Int64)) * (10 : Int64))
  have f := c_l2i (x - (x / (10 : Int64)) * (10 : Int64))
  have r3 := rng32 ((x - (x / (10 : Int64)) * (10 : Int64)).toInt32)
  have g := c_iadd 48 ((x - (x / (10 : Int64)) * (10 : Int64)).toInt32)
  have r4 := rng32 ((48 : Int32) + (x - (x / (10 : Int64)) * (10 : Int64)).toInt32)
  have k := c_i2c ((48 : Int32) + (x - (x / (10 : Int64)) * (10 : Int64)).toInt32)
  have e2 : (48 : Int32).toInt = 48 := rfl
  have rx := rng64 x
  have t : (Int32.ofNat (48 + n % 10)).toInt = ((48 + n % 10 : Nat) : Int) := Int32.toInt_ofNat_of_lt (by omega)
  rw [d, e1] at a
  refine Int32.toInt_inj.mp ?_
  rw [t]
  omega
theorem own_chkD {x K : Int64} {n k : Nat} (hm : x.toInt = (n : Int)) (hK : K.toInt = (k : Int)) (h1 : K ≠ -1) : (x / K).toInt = ((n / k : Nat) : Int) := by
  rw [(c_ldiv x K k hK h1).1 (by omega), hm]
  exact (Int.natCast_ediv _ _).symm
theorem own_sgn (n : Nat) : 0 ≤ (Int32.ofNat (48 + n % 10)).toInt ∧ (Int32.ofNat (48 + n % 10)).toInt < 128 := by
  rw [Int32.toInt_ofNat_of_lt (by omega)]
  omega
theorem own_ascK : ∀ k : Nat, k < 128 → (Int32.ofNat k &&& (255 : Int32)) = Int32.ofNat k ∧ (Int32.ofNat k).toUInt32.toUInt16.toUInt32.toInt32 = Int32.ofNat k := by decide +kernel
theorem own_asc {x : Int32} (h : 0 ≤ x.toInt ∧ x.toInt < 128) : (x &&& (255 : Int32)) = x ∧ x.toUInt32.toUInt16.toUInt32.toInt32 = x := by
  obtain ⟨k, hk, rfl⟩ := own_small (n := 128) h.1 h.2
  exact own_ascK k hk
theorem own_subI {x : Int32} {n : Nat} {y : Int32} {k : Nat} (h : x.toInt = (n : Int)) (hy : y.toInt = (k : Int)) (hk : k ≤ n) (hn : n ≤ 2000) : (x - y).toInt = ((n - k : Nat) : Int) := by
  have a := c_isub x y
  have r := rng32 (x - y)
  omega
theorem own_addI {x : Int32} {n : Nat} {y : Int32} {k : Nat} (h : x.toInt = (n : Int)) (hy : y.toInt = (k : Int)) (hn : n + k ≤ 2000) : (x + y).toInt = ((n + k : Nat) : Int) := by
  have a := c_iadd x y
  have r := rng32 (x + y)
  omega
theorem own_d1c {x : Int32} (h : 0 ≤ x.toInt ∧ x.toInt ≤ 9) : (((48 : Int32) + x).toUInt32.toUInt16.toUInt32.toInt32) = own_d1 x ∧ 0 ≤ (own_d1 x).toInt ∧ (own_d1 x).toInt < 128 := by
  have n := own_nat (z := x) h.1
  have a := c_iadd 48 x
  have r := rng32 ((48 : Int32) + x)
  have k := c_i2c ((48 : Int32) + x)
  have e2 : (48 : Int32).toInt = 48 := rfl
  have t : (own_d1 x).toInt = ((48 + x.toNatClampNeg : Nat) : Int) := Int32.toInt_ofNat_of_lt (by omega)
  refine ⟨Int32.toInt_inj.mp ?_, by omega, by omega⟩
  rw [t]
  omega
theorem own_sum2 {x y : Int64} {a b : Int32} (hx : x = (0 : Int64) + a.toInt64) (hy : y = (0 : Int64) + a.toInt64 + b.toInt64) : (-4294967296 ≤ x.toInt ∧ x.toInt ≤ 4294967296) ∧ (-4294967296 ≤ y.toInt ∧ y.toInt ≤ 4294967296) := by
  have r1 := rng32 a
  have r2 := rng32 b
  have e1 := c_i2l a
  have e2 := c_i2l b
  have c1 := c_ladd 0 a.toInt64
  have c2 := c_ladd ((0 : Int64) + a.toInt64) b.toInt64
  have q1 := rng64 ((0 : Int64) + a.toInt64)
  have q2 := rng64 ((0 : Int64) + a.toInt64 + b.toInt64)
  have e0 : (0 : Int64).toInt = 0 := rfl
  rw [hx, hy]
  omega
abbrev B21 := jdk_29_method_65_code
theorem k21_0 : ((own_A B21 0 (.iload_n 0) 1 ∧ own_A B21 1 (.iload_n 1) 1) ∧ own_A B21 2 (.if_icmp .lt 7) 3 ∧ own_A B21 5 (.iload_n 0) 1) ∧ (own_A B21 6 (.goto 4) 3 ∧ own_A B21 9 (.iload_n 1) 1) ∧ own_A B21 10 .ireturn 1 := by decide +kernel
theorem own_ef_21 (m : MethodId) (x0 : Int32) (x1 : Int32) : entryFrame m #[(.int x0), (.int x1)] 2 = mkF m 0 #[.val (.int x0), .val (.int x1)] [] := by first | (simp [entryFrame, mkF, argsToLocals, Value.category]; done) | rfl
def Q21 (Z : State) (p0 : Int32) (p1 : Int32) (h0 : Heap) (n0 : Nat) (v : Option Value) (h : Heap) (L : List Loc) : Prop := v = some (.int (own_max p0 p1)) ∧ Fr n0 L ∧ h = h0
set_option maxRecDepth 65536 in
set_option maxHeartbeats 40000000 in
theorem rm21 (l : Launch) (Z : State) (a0 : Array Value) (hw : ∀ d ∈ tables_1, d.before a0 Z = true) (ws : List Jvm.Cond) (p0 : Int32) (p1 : Int32) (h0 : Heap) (n0 : Nat) (Z0 : n0 ≤ h0.size)  :
    MetFree l y_0 (head1 (Jvm.Cond.code y_0 jdk_29_method_65_code 2 (some .int) :: ws) R_0) (fun a U => a = #[(.int p0), (.int p1)] ∧ Z.Warmed39 U.vm ∧ U.heap = h0) (fun _ _ _ _ _ => True) (fun _ U o U' => ∃ v L, o = .returned v ∧ Q21 Z p0 p1 h0 n0 v U'.heap L ∧ FrameEnd U o U' L R_0.cells R_0.slots) := by
  refine MetFree.of_bodySF (Jvm.Free.JP.mathPlain rfl (by decide +kernel)) hisR ?_
  intro p e s m args below meth c s₁ Bd hml0 hP hK
  obtain ⟨rfl, hZ, hh⟩ := hP
  have hx := Bd.exec
  have hby := Bd.bytes
  have hml : c.maxLocals = 2 := hml0
  have hown : s.vm.findClass "java/lang/Math" = some m.cls := findClass_of_methodNamed Bd.named
  have hnm := (name_of_methodNamed Bd.named Bd.method).1
  have X0 : Stand p l e R_0 s m #[(.int p0), (.int p1)] below meth c s₁ [] 0 0 := Stand.of_body Bd
  have e0 : s₁.heap = h0 := by rw [← hh, Bd.state]; rfl
  have N0 := Fr.nil n0
  show Good p e below (fun o U' => ∃ v L, o = .returned v ∧ Q21 Z p0 p1 h0 n0 v U'.heap L ∧ FrameEnd s o U' L R_0.cells R_0.slots) _
  refine Good.back (S' := s₁.setTop (mkF m 0 #[.val (.int p0), .val (.int p1)] [])) (fun t k => castTop (own_ef_21 m p0 p1) k) ?_
  show Good p e below _ (s₁.setTop (mkF m 0 (a_II p0 p1) []))
  refine Good.back (fun _ k => XS.iloadN X0.here hx rfl (hb hby k21_0.1.1.1) rfl k) ?_
  refine Good.back (fun _ k => XS.iloadN X0.here hx rfl (hb hby k21_0.1.1.2) rfl k) ?_
  by_cases hc2_1 : p0 < p1
  · refine Good.back (fun _ k => XS.icmpYes X0.here hx rfl (pc0 := 2) (pc' := 9) rfl (hb hby k21_0.1.2.1) rfl (tlt hc2_1).1 (by decide) (by decide) k) ?_
    refine Good.back (fun _ k => XS.iloadN X0.here hx rfl (hb hby k21_0.2.1.2) rfl k) ?_
    show Good p e below _ (s₁.setTop (mkF m 10 (a_II p0 p1) [.int p1]))
    obtain ⟨fs2, hr2, hrun2, hended2, hW2, hsame2⟩ := X0.leave (v := some (.int p1)) (fun h => by rw [Bd.returns] at h; cases h)
    refine Good.done (retI X0 hx Bd.returns (hb hby k21_0.2.2) hr2) hrun2 hended2 ⟨_, _, rfl, ?_, ⟨_, rfl⟩, hW2, hsame2.mono (by decide) (by decide)⟩
    show Q21 Z p0 p1 h0 n0 _ s₁.heap _
    rw [e0]
    exact ⟨congrArg (fun z => some (Value.int z)) (by unfold own_max; rw [if_pos hc2_1]), N0, rfl⟩
  · refine Good.back (fun _ k => XS.icmpNo X0.here hx rfl (hb hby k21_0.1.2.1) rfl (flt hc2_1).1 k) ?_
    refine Good.back (fun _ k => XS.iloadN X0.here hx rfl (hb hby k21_0.1.2.2) rfl k) ?_
    refine Good.back (fun _ k => XS.goto X0.here hx rfl (pc0 := 6) (pc' := 10) rfl (hb hby k21_0.2.1.1) (by decide) (by decide) k) ?_
    show Good p e below _ (s₁.setTop (mkF m 10 (a_II p0 p1) [.int p0]))
    obtain ⟨fs3, hr3, hrun3, hended3, hW3, hsame3⟩ := X0.leave (v := some (.int p0)) (fun h => by rw [Bd.returns] at h; cases h)
    refine Good.done (retI X0 hx Bd.returns (hb hby k21_0.2.2) hr3) hrun3 hended3 ⟨_, _, rfl, ?_, ⟨_, rfl⟩, hW3, hsame3.mono (by decide) (by decide)⟩
    show Q21 Z p0 p1 h0 n0 _ s₁.heap _
    rw [e0]
    exact ⟨congrArg (fun z => some (Value.int z)) (by unfold own_max; rw [if_neg hc2_1]), N0, rfl⟩
abbrev B23 := jdk_29_method_69_code
theorem k23_0 : ((own_A B23 0 (.iload_n 0) 1 ∧ own_A B23 1 (.iload_n 1) 1) ∧ own_A B23 2 (.if_icmp .gt 7) 3 ∧ own_A B23 5 (.iload_n 0) 1) ∧ (own_A B23 6 (.goto 4) 3 ∧ own_A B23 9 (.iload_n 1) 1) ∧ own_A B23 10 .ireturn 1 := by decide +kernel
theorem own_ef_23 (m : MethodId) (x0 : Int32) (x1 : Int32) : entryFrame m #[(.int x0), (.int x1)] 2 = mkF m 0 #[.val (.int x0), .val (.int x1)] [] := by first | (simp [entryFrame, mkF, argsToLocals, Value.category]; done) | rfl
def Q23 (Z : State) (p0 : Int32) (p1 : Int32) (h0 : Heap) (n0 : Nat) (v : Option Value) (h : Heap) (L : List Loc) : Prop := v = some (.int (own_min p0 p1)) ∧ Fr n0 L ∧ h = h0
set_option maxRecDepth 65536 in
set_option maxHeartbeats 40000000 in
theorem rm23 (l : Launch) (Z : State) (a0 : Array Value) (hw : ∀ d ∈ tables_1, d.before a0 Z = true) (ws : List Jvm.Cond) (p0 : Int32) (p1 : Int32) (h0 : Heap) (n0 : Nat) (Z0 : n0 ≤ h0.size)  :
    MetFree l y_1 (head1 (Jvm.Cond.code y_1 jdk_29_method_69_code 2 (some .int) :: ws) R_0) (fun a U => a = #[(.int p0), (.int p1)] ∧ Z.Warmed39 U.vm ∧ U.heap = h0) (fun _ _ _ _ _ => True) (fun _ U o U' => ∃ v L, o = .returned v ∧ Q23 Z p0 p1 h0 n0 v U'.heap L ∧ FrameEnd U o U' L R_0.cells R_0.slots) := by
  refine MetFree.of_bodySF (Jvm.Free.JP.mathPlain rfl (by decide +kernel)) hisR ?_
  intro p e s m args below meth c s₁ Bd hml0 hP hK
  obtain ⟨rfl, hZ, hh⟩ := hP
  have hx := Bd.exec
  have hby := Bd.bytes
  have hml : c.maxLocals = 2 := hml0
  have hown : s.vm.findClass "java/lang/Math" = some m.cls := findClass_of_methodNamed Bd.named
  have hnm := (name_of_methodNamed Bd.named Bd.method).1
  have X0 : Stand p l e R_0 s m #[(.int p0), (.int p1)] below meth c s₁ [] 0 0 := Stand.of_body Bd
  have e0 : s₁.heap = h0 := by rw [← hh, Bd.state]; rfl
  have N0 := Fr.nil n0
  show Good p e below (fun o U' => ∃ v L, o = .returned v ∧ Q23 Z p0 p1 h0 n0 v U'.heap L ∧ FrameEnd s o U' L R_0.cells R_0.slots) _
  refine Good.back (S' := s₁.setTop (mkF m 0 #[.val (.int p0), .val (.int p1)] [])) (fun t k => castTop (own_ef_23 m p0 p1) k) ?_
  show Good p e below _ (s₁.setTop (mkF m 0 (a_II p0 p1) []))
  refine Good.back (fun _ k => XS.iloadN X0.here hx rfl (hb hby k23_0.1.1.1) rfl k) ?_
  refine Good.back (fun _ k => XS.iloadN X0.here hx rfl (hb hby k23_0.1.1.2) rfl k) ?_
  by_cases hc2_1 : p1 < p0
  · refine Good.back (fun _ k => XS.icmpYes X0.here hx rfl (pc0 := 2) (pc' := 9) rfl (hb hby k23_0.1.2.1) rfl (tlt hc2_1).2.2.1 (by decide) (by decide) k) ?_
    refine Good.back (fun _ k => XS.iloadN X0.here hx rfl (hb hby k23_0.2.1.2) rfl k) ?_
    show Good p e below _ (s₁.setTop (mkF m 10 (a_II p0 p1) [.int p1]))
    obtain ⟨fs2, hr2, hrun2, hended2, hW2, hsame2⟩ := X0.leave (v := some (.int p1)) (fun h => by rw [Bd.returns] at h; cases h)
    refine Good.done (retI X0 hx Bd.returns (hb hby k23_0.2.2) hr2) hrun2 hended2 ⟨_, _, rfl, ?_, ⟨_, rfl⟩, hW2, hsame2.mono (by decide) (by decide)⟩
    show Q23 Z p0 p1 h0 n0 _ s₁.heap _
    rw [e0]
    exact ⟨congrArg (fun z => some (Value.int z)) (by unfold own_min; rw [if_pos hc2_1]), N0, rfl⟩
  · refine Good.back (fun _ k => XS.icmpNo X0.here hx rfl (hb hby k23_0.1.2.1) rfl (flt hc2_1).2.2.1 k) ?_
    refine Good.back (fun _ k => XS.iloadN X0.here hx rfl (hb hby k23_0.1.2.2) rfl k) ?_
    refine Good.back (fun _ k => XS.goto X0.here hx rfl (pc0 := 6) (pc' := 10) rfl (hb hby k23_0.2.1.1) (by decide) (by decide) k) ?_
    show Good p e below _ (s₁.setTop (mkF m 10 (a_II p0 p1) [.int p0]))
    obtain ⟨fs3, hr3, hrun3, hended3, hW3, hsame3⟩ := X0.leave (v := some (.int p0)) (fun h => by rw [Bd.returns] at h; cases h)
    refine Good.done (retI X0 hx Bd.returns (hb hby k23_0.2.2) hr3) hrun3 hended3 ⟨_, _, rfl, ?_, ⟨_, rfl⟩, hW3, hsame3.mono (by decide) (by decide)⟩
    show Q23 Z p0 p1 h0 n0 _ s₁.heap _
    rw [e0]
    exact ⟨congrArg (fun z => some (Value.int z)) (by unfold own_min; rw [if_neg hc2_1]), N0, rfl⟩
theorem own_pd0 : parseMethodDescriptor "(II)I" = some ⟨[.int, .int], some .int⟩ := by decide +kernel
theorem own_pn0 : plainName "jdk/internal/util/ArraysSupport" = true := by first | (simp [plainName, overriddenIn]; done) | decide +kernel
abbrev B20 := jdk_48_method_27_code
theorem k20_0 : ((own_A B20 0 (.iload_n 0) 1 ∧ own_A B20 1 (.iload_n 1) 1) ∧ own_A B20 2 (.iload_n 2) 1 ∧ own_A B20 3 (.invokestatic 194) 3) ∧ (own_A B20 6 .iadd 1 ∧ own_A B20 7 (.istore_n 3) 1) ∧ own_A B20 8 (.iconst 0) 1 ∧ own_A B20 9 (.iload_n 3) 1 := by decide +kernel
theorem k20_1 : ((own_A B20 10 (.if_icmp .ge 11) 3 ∧ own_A B20 13 (.iload_n 3) 1) ∧ own_A B20 14 (.ldc 200) 2) ∧ (own_A B20 16 (.if_icmp .gt 5) 3 ∧ own_A B20 19 (.iload_n 3) 1) ∧ own_A B20 20 .ireturn 1 := by decide +kernel
theorem own_ef_20 (m : MethodId) (x0 : Int32) (x1 : Int32) (x2 : Int32) : entryFrame m #[(.int x0), (.int x1), (.int x2)] 4 = mkF m 0 #[.val (.int x0), .val (.int x1), .val (.int x2), .unset] [] := by first | (simp [entryFrame, mkF, argsToLocals, Value.category]; done) | rfl
def Q20 (Z : State) (p0 : Int32) (p1 : Int32) (p2 : Int32) (h0 : Heap) (n0 : Nat) (v : Option Value) (h : Heap) (L : List Loc) : Prop := v = some (.int (p0 + (own_max p1 p2))) ∧ Fr n0 L ∧ h = h0
set_option maxRecDepth 65536 in
set_option maxHeartbeats 40000000 in
theorem rm20 (l : Launch) (Z : State) (a0 : Array Value) (hw : ∀ d ∈ tables_1, d.before a0 Z = true) (ws : List Jvm.Cond) (p0 : Int32) (p1 : Int32) (p2 : Int32) (h0 : Heap) (n0 : Nat) (Z0 : n0 ≤ h0.size) (h1 : (0 : Int32) < (p0 + (own_max p1 p2))) (h2 : ¬ ((2147483639 : Int32) < (p0 + (own_max p1 p2)))) :
    MetFree l y_2 (head1 (Jvm.Cond.code y_2 jdk_48_method_27_code 4 (some .int) :: ws) R_1) (fun a U => a = #[(.int p0), (.int p1), (.int p2)] ∧ Z.Warmed39 U.vm ∧ U.heap = h0) (fun _ _ _ _ _ => True) (fun _ U o U' => ∃ v L, o = .returned v ∧ Q20 Z p0 p1 p2 h0 n0 v U'.heap L ∧ FrameEnd U o U' L R_1.cells R_1.slots) := by
  refine MetFree.of_bodySF (plainFor_of_name own_pn0) hisR ?_
  intro p e s m args below meth c s₁ Bd hml0 hP hK
  obtain ⟨rfl, hZ, hh⟩ := hP
  have hx := Bd.exec
  have hby := Bd.bytes
  have hml : c.maxLocals = 4 := hml0
  have hown : s.vm.findClass "jdk/internal/util/ArraysSupport" = some m.cls := findClass_of_methodNamed Bd.named
  have hnm := (name_of_methodNamed Bd.named Bd.method).1
  have X0 : Stand p l e R_1 s m #[(.int p0), (.int p1), (.int p2)] below meth c s₁ [] 0 0 := Stand.of_body Bd
  have e0 : s₁.heap = h0 := by rw [← hh, Bd.state]; rfl
  have N0 := Fr.nil n0
  show Good p e below (fun o U' => ∃ v L, o = .returned v ∧ Q20 Z p0 p1 p2 h0 n0 v U'.heap L ∧ FrameEnd s o U' L R_1.cells R_1.slots) _
  refine Good.back (S' := s₁.setTop (mkF m 0 #[.val (.int p0), .val (.int p1), .val (.int p2), .unset] [])) (fun t k => castTop (own_ef_20 m p0 p1 p2) k) ?_
  show Good p e below _ (s₁.setTop (mkF m 0 (a_I3u p0 p1 p2) []))
  refine Good.back (fun _ k => XS.iloadN X0.here hx rfl (hb hby k20_0.1.1.1) rfl k) ?_
  refine Good.back (fun _ k => XS.iloadN X0.here hx rfl (hb hby k20_0.1.1.2) rfl k) ?_
  refine Good.back (fun _ k => XS.iloadN X0.here hx rfl (hb hby k20_0.1.2.1) rfl k) ?_
  obtain ⟨_, _, ⟨T1, L1, k1, n1⟩, -, X1, ⟨Lc1, hQ1, l1, y1, z1⟩, st1⟩ := Jvm.LawKit.callS X0 hx (y := y_0) hown (mvT hZ (wd hw 129 rfl)) (mvT hZ (wd hw 130 rfl)) (mvT hZ (wd hw 131 rfl)) (mvT hZ (wd hw 132 rfl)) (by decide) (backOf (W := 1) (rm21 l Z a0 hw [] p1 p2  h0 n0 Z0 ) hZ (wd hw 132 rfl) (wd hw 131 rfl) (by decide) (by decide)) (g := (mkF m 3 (a_I3u p0 p1 p2) [.int p2, .int p1, .int p0])) rfl (by rw [hml]; rfl) (argsL := [(.int p1), (.int p2)]) (rest := [(.int p0)]) (lenOf own_pd0 rfl) rfl (by show 2 * 0 + _ ≤ _; exact Nat.le_of_eq rfl) (hb hby k20_0.1.2.2) (fun _ _ => ⟨rfl, e0, (by decide : 0 + 0 ≤ _), (by decide : 0 + 0 ≤ _)⟩)
  dsimp only [Pt.U, Pt.locs, Pt.cells, Pt.slots] at X1 l1 y1 z1 st1 hQ1
  subst l1 y1 z1
  obtain ⟨rfl, N1q, eh1⟩ := hQ1
  have N1 := Fr.app N0 N1q
  refine Good.back st1 ?_
  refine Good.back (fun _ k => XS.iadd X1.here hx rfl (hb hby k20_0.2.1.1) rfl k) ?_
  refine Good.back (fun _ k => XS.istoreN X1.here hx rfl (hb hby k20_0.2.1.2) rfl (l' := (a_I4 p0 p1 p2 (p0 + (own_max p1 p2)))) rfl k) ?_
  refine Good.back (fun _ k => XS.iconst X1.here hx rfl (hb hby k20_0.2.2.1) k) ?_
  refine Good.back (fun _ k => XS.iloadN X1.here hx rfl (hb hby k20_0.2.2.2) rfl k) ?_
  show Good p e below _ (T1.setTop (mkF m 10 (a_I4 p0 p1 p2 (p0 + (own_max p1 p2))) [.int (p0 + (own_max p1 p2)), .int 0]))
  refine Good.back (fun _ k => XS.icmpNo X1.here hx rfl (hb hby k20_1.1.1.1) rfl (tlt h1).2.1 k) ?_
  refine Good.back (fun _ k => XS.iloadN X1.here hx rfl (hb hby k20_1.1.1.2) rfl k) ?_
  refine Good.back (X1.ldcInt hx hown (mvT hZ (wd hw 133 rfl)) (g := (mkF m 14 (a_I4 p0 p1 p2 (p0 + (own_max p1 p2))) [.int (p0 + (own_max p1 p2))])) rfl (hb hby k20_1.1.2)) ?_
  show Good p e below _ (T1.setTop (mkF m 16 (a_I4 p0 p1 p2 (p0 + (own_max p1 p2))) [.int 2147483639, .int (p0 + (own_max p1 p2))]))
  refine Good.back (fun _ k => XS.icmpNo X1.here hx rfl (hb hby k20_1.2.1.1) rfl (flt h2).2.2.1 k) ?_
  refine Good.back (fun _ k => XS.iloadN X1.here hx rfl (hb hby k20_1.2.1.2) rfl k) ?_
  show Good p e below _ (T1.setTop (mkF m 20 (a_I4 p0 p1 p2 (p0 + (own_max p1 p2))) [.int (p0 + (own_max p1 p2))]))
  obtain ⟨fs2, hr2, hrun2, hended2, hW2, hsame2⟩ := X1.leave (v := some (.int (p0 + (own_max p1 p2)))) (fun h => by rw [Bd.returns] at h; cases h)
  refine Good.done (retI X1 hx Bd.returns (hb hby k20_1.2.2) hr2) hrun2 hended2 ⟨_, _, rfl, ?_, ⟨_, rfl⟩, hW2, hsame2.mono (by decide) (by decide)⟩
  show Q20 Z p0 p1 p2 h0 n0 _ T1.heap _
  rw [eh1]
  exact ⟨rfl, N1, rfl⟩
theorem own_pd1 : parseMethodDescriptor "(III)I" = some ⟨[.int, .int, .int], some .int⟩ := by decide +kernel
theorem own_pn1 : plainName "java/lang/AbstractStringBuilder" = true := by first | (simp [plainName, overriddenIn]; done) | decide +kernel
abbrev B19 := jdk_68_method_10_code
theorem k19_0 : ((own_A B19 0 (.aload_n 0) 1 ∧ own_A B19 1 (.getfield 15) 3) ∧ own_A B19 4 .arraylength 1 ∧ own_A B19 5 (.istore_n 2) 1) ∧ (own_A B19 6 (.iload_n 1) 1 ∧ own_A B19 7 (.aload_n 0) 1) ∧ own_A B19 8 (.getfield 22) 3 ∧ own_A B19 11 .ishl 1 := by decide +kernel
theorem k19_1 : ((own_A B19 12 (.istore_n 3) 1 ∧ own_A B19 13 (.iload_n 3) 1) ∧ own_A B19 14 (.iload_n 2) 1 ∧ own_A B19 15 .isub 1) ∧ (own_A B19 16 (.istore 4) 2 ∧ own_A B19 18 (.iload_n 2) 1) ∧ own_A B19 19 (.iload 4) 2 ∧ own_A B19 21 (.iload_n 2) 1 := by decide +kernel
theorem k19_2 : ((own_A B19 22 (.iconst 2) 1 ∧ own_A B19 23 (.aload_n 0) 1) ∧ own_A B19 24 (.getfield 22) 3 ∧ own_A B19 27 .ishl 1) ∧ (own_A B19 28 .iadd 1 ∧ own_A B19 29 (.invokestatic 114) 3) ∧ own_A B19 32 (.istore 5) 2 ∧ own_A B19 34 (.iload 5) 2 := by decide +kernel
theorem k19_3 : ((own_A B19 36 (.ldc 39) 2 ∧ own_A B19 38 (.if_icmp .ne 13) 3) ∧ own_A B19 51 (.iload 5) 2 ∧ own_A B19 53 (.aload_n 0) 1) ∧ (own_A B19 54 (.getfield 22) 3 ∧ own_A B19 57 .ishr 1) ∧ own_A B19 58 .ireturn 1 := by decide +kernel
theorem own_ef_19 (m : MethodId) (x0 : Addr) (x1 : Int32) : entryFrame m #[(.ref x0), (.int x1)] 6 = mkF m 0 #[.val (.ref x0), .val (.int x1), .unset, .unset, .unset, .unset] [] := by first | (simp [entryFrame, mkF, argsToLocals, Value.category]; done) | rfl
def Q19 (Z : State) (r0 : Addr) (p1 : Int32) (ar : Addr) (kk : ClassId) (zc : Int32) (bs : List Int32) (h0 : Heap) (n0 : Nat) (v : Option Value) (h : Heap) (L : List Loc) : Prop := v = some (.int (zc + (own_max (p1 - zc) (zc + (2 : Int32))))) ∧ Fr n0 L ∧ h = h0
set_option maxRecDepth 65536 in
set_option maxHeartbeats 40000000 in
theorem rm19 (l : Launch) (Z : State) (a0 : Array Value) (hw : ∀ d ∈ tables_1, d.before a0 Z = true) (ws : List Jvm.Cond) (r0 : Addr) (p1 : Int32) (ar : Addr) (kk : ClassId) (zc : Int32) (bs : List Int32) (h0 : Heap) (n0 : Nat) (Z0 : n0 ≤ h0.size) (E0 : Exa Z h0 r0 "java/lang/StringBuilder") (Fk : Fld Z h0 r0 "java/lang/AbstractStringBuilder" "coder" "B" (.int 0)) (Fv : Fld Z h0 r0 "java/lang/AbstractStringBuilder" "value" "[B" (.ref ar)) (Va : Arv Z h0 ar kk .byte zc (own_v bs) (.int 0)) (hz0 : 0 ≤ zc.toInt) (hgr : zc.toInt < p1.toInt) (hp : p1.toInt ≤ 100) :
    MetFree l y_3 (head1 (Jvm.Cond.code y_3 jdk_68_method_10_code 6 (some .int) :: ws) R_2) (fun a U => a = #[(.ref r0), (.int p1)] ∧ Z.Warmed39 U.vm ∧ U.heap = h0) (fun _ _ _ _ _ => True) (fun _ U o U' => ∃ v L, o = .returned v ∧ Q19 Z r0 p1 ar kk zc bs h0 n0 v U'.heap L ∧ FrameEnd U o U' L R_2.cells R_2.slots) := by
  refine MetFree.of_bodySF (plainFor_of_name own_pn1) hisR ?_
  intro p e s m args below meth c s₁ Bd hml0 hP hK
  obtain ⟨rfl, hZ, hh⟩ := hP
  have hx := Bd.exec
  have hby := Bd.bytes
  have hml : c.maxLocals = 6 := hml0
  have hown : s.vm.findClass "java/lang/AbstractStringBuilder" = some m.cls := findClass_of_methodNamed Bd.named
  have hnm := (name_of_methodNamed Bd.named Bd.method).1
  have X0 : Stand p l e R_2 s m #[(.ref r0), (.int p1)] below meth c s₁ [] 0 0 := Stand.of_body Bd
  have e0 : s₁.heap = h0 := by rw [← hh, Bd.state]; rfl
  have N0 := Fr.nil n0
  show Good p e below (fun o U' => ∃ v L, o = .returned v ∧ Q19 Z r0 p1 ar kk zc bs h0 n0 v U'.heap L ∧ FrameEnd s o U' L R_2.cells R_2.slots) _
  refine Good.back (S' := s₁.setTop (mkF m 0 #[.val (.ref r0), .val (.int p1), .unset, .unset, .unset, .unset] [])) (fun t k => castTop (own_ef_19 m r0 p1) k) ?_
  have hnc := own_nc hz0 hgr hp
  show Good p e below _ (s₁.setTop (mkF m 0 (a_RIu4 r0 p1) []))
  refine Good.back (fun _ k => XS.aloadN X0.here hx rfl (hb hby k19_0.1.1.1) rfl rfl k) ?_
  obtain ⟨T1, X1, e1, st1⟩ := getF X0 hx hZ hown (host := "") (Or.inl (wd hw 32 rfl)) Via.refl e0 Fv (g := (mkF m 1 (a_RIu4 r0 p1) [.ref r0])) rfl rfl (hb hby k19_0.1.1.2)
  refine Good.back st1 ?_
  have fc2 := Va
  obtain ⟨cl2, Ar2, qk2, S2, N2', H2, G2⟩ := fc2
  refine Good.back (X1.arraylength hx (by rw [e1]; exact Ar2.1) (State.isArrayOf_alike hZ.alike Ar2.2.1) (g := (mkF m 4 (a_RIu4 r0 p1) [.ref ar])) rfl rfl (hb hby k19_0.1.2.1)) ?_
  rw [len_of S2 N2']
  refine Good.back (fun _ k => XS.istoreN X1.here hx rfl (hb hby k19_0.1.2.2) rfl (l' := (a_RIIu3 r0 p1 zc)) rfl k) ?_
  refine Good.back (fun _ k => XS.iloadN X1.here hx rfl (hb hby k19_0.2.1.1) rfl k) ?_
  refine Good.back (fun _ k => XS.aloadN X1.here hx rfl (hb hby k19_0.2.1.2) rfl rfl k) ?_
  obtain ⟨T3, X3, e3, st3⟩ := getF X1 hx hZ hown (host := "") (Or.inl (wd hw 34 rfl)) Via.refl e1 Fk (g := (mkF m 8 (a_RIIu3 r0 p1 zc) [.ref r0, .int p1])) rfl rfl (hb hby k19_0.2.2.1)
  refine Good.back st3 ?_
  refine Good.back (fun _ k => XS.ishl X3.here hx rfl (hb hby k19_0.2.2.2) rfl k) ?_
  show Good p e below _ (T3.setTop (mkF m 12 (a_RIIu3 r0 p1 zc) [.int (p1 <<< ((0 : Int32) &&& 31))]))
  rw [show ((p1 <<< ((0 : Int32) &&& 31)) : Int32) = p1 from own_shl0 _]
  refine Good.back (fun _ k => XS.istoreN X3.here hx rfl (hb hby k19_1.1.1.1) rfl (l' := (a_RI3uu r0 p1 zc p1)) rfl k) ?_
  refine Good.back (fun _ k => XS.iloadN X3.here hx rfl (hb hby k19_1.1.1.2) rfl k) ?_
  refine Good.back (fun _ k => XS.iloadN X3.here hx rfl (hb hby k19_1.1.2.1) rfl k) ?_
  refine Good.back (fun _ k => XS.isub X3.here hx rfl (hb hby k19_1.1.2.2) rfl k) ?_
  show Good p e below _ (T3.setTop (mkF m 16 (a_RI3uu r0 p1 zc p1) [.int (p1 - zc)]))
  refine Good.back (fun _ k => XS.istore X3.here hx rfl (hb hby k19_1.2.1.1) rfl (l' := (a_RI4u r0 p1 zc p1 (p1 - zc))) rfl k) ?_
  refine Good.back (fun _ k => XS.iloadN X3.here hx rfl (hb hby k19_1.2.1.2) rfl k) ?_
  refine Good.back (fun _ k => XS.iload X3.here hx rfl (hb hby k19_1.2.2.1) rfl k) ?_
  refine Good.back (fun _ k => XS.iloadN X3.here hx rfl (hb hby k19_1.2.2.2) rfl k) ?_
  refine Good.back (fun _ k => XS.iconst X3.here hx rfl (hb hby k19_2.1.1.1) k) ?_
  refine Good.back (fun _ k => XS.aloadN X3.here hx rfl (hb hby k19_2.1.1.2) rfl rfl k) ?_
  show Good p e below _ (T3.setTop (mkF m 24 (a_RI4u r0 p1 zc p1 (p1 - zc)) [.ref r0, .int 2, .int zc, .int (p1 - zc), .int zc]))
  obtain ⟨T4, X4, e4, st4⟩ := getF X3 hx hZ hown (host := "") (Or.inl (wd hw 34 rfl)) Via.refl e3 Fk (g := (mkF m 24 (a_RI4u r0 p1 zc p1 (p1 - zc)) [.ref r0, .int 2, .int zc, .int (p1 - zc), .int zc])) rfl rfl (hb hby k19_2.1.2.1)
  refine Good.back st4 ?_
  refine Good.back (fun _ k => XS.ishl X4.here hx rfl (hb hby k19_2.1.2.2) rfl k) ?_
  show Good p e below _ (T4.setTop (mkF m 28 (a_RI4u r0 p1 zc p1 (p1 - zc)) [.int ((2 : Int32) <<< ((0 : Int32) &&& 31)), .int zc, .int (p1 - zc), .int zc]))
  rw [show (((2 : Int32) <<< ((0 : Int32) &&& 31)) : Int32) = (2 : Int32) from by decide]
  refine Good.back (fun _ k => XS.iadd X4.here hx rfl (hb hby k19_2.2.1.1) rfl k) ?_
  obtain ⟨_, _, ⟨T5, L5, k5, n5⟩, -, X5, ⟨Lc5, hQ5, l5, y5, z5⟩, st5⟩ := Jvm.LawKit.callS X4 hx (y := y_2) hown (mvT hZ (wd hw 125 rfl)) (mvT hZ (wd hw 126 rfl)) (mvT hZ (wd hw 127 rfl)) (mvT hZ (wd hw 128 rfl)) (by decide) (backOf (W := 0) (rm20 l Z a0 hw [] zc (p1 - zc) (zc + (2 : Int32))  h0 n0 Z0 (own_lt' (show (0 : Int32).toInt < _ by rw [show (0 : Int32).toInt = 0 from rfl]; omega)) (own_lt (by rw [show (2147483639 : Int32).toInt = 2147483639 from rfl]; omega))) hZ (wd hw 128 rfl) (wd hw 127 rfl) (by decide) (by decide)) (g := (mkF m 29 (a_RI4u r0 p1 zc p1 (p1 - zc)) [.int (zc + (2 : Int32)), .int (p1 - zc), .int zc])) rfl (by rw [hml]; rfl) (argsL := [(.int zc), (.int (p1 - zc)), (.int (zc + (2 : Int32)))]) (rest := []) (lenOf own_pd1 rfl) rfl (by show 2 * 0 + _ ≤ _; exact Nat.le_of_eq rfl) (hb hby k19_2.2.1.2) (fun _ _ => ⟨rfl, e4, (by decide : 0 + 0 ≤ _), (by decide : 0 + 0 ≤ _)⟩)
  dsimp only [Pt.U, Pt.locs, Pt.cells, Pt.slots] at X5 l5 y5 z5 st5 hQ5
  subst l5 y5 z5
  obtain ⟨rfl, N5q, eh5⟩ := hQ5
  have N5 := Fr.app N0 N5q
  refine Good.back st5 ?_
  refine Good.back (fun _ k => XS.istore X5.here hx rfl (hb hby k19_2.2.2.1) rfl (l' := (a_RI5 r0 p1 zc p1 (p1 - zc) (zc + (own_max (p1 - zc) (zc + (2 : Int32)))))) rfl k) ?_
  refine Good.back (fun _ k => XS.iload X5.here hx rfl (hb hby k19_2.2.2.2) rfl k) ?_
  refine Good.back (X5.ldcInt hx hown (mvT hZ (wd hw 134 rfl)) (g := (mkF m 36 (a_RI5 r0 p1 zc p1 (p1 - zc) (zc + (own_max (p1 - zc) (zc + (2 : Int32))))) [.int (zc + (own_max (p1 - zc) (zc + (2 : Int32))))])) rfl (hb hby k19_3.1.1.1)) ?_
  show Good p e below _ (T5.setTop (mkF m 38 (a_RI5 r0 p1 zc p1 (p1 - zc) (zc + (own_max (p1 - zc) (zc + (2 : Int32))))) [.int 2147483647, .int (zc + (own_max (p1 - zc) (zc + (2 : Int32))))]))
  refine Good.back (fun _ k => XS.icmpYes X5.here hx rfl (pc0 := 38) (pc' := 51) rfl (hb hby k19_3.1.1.2) rfl (feq (own_eq (by rw [show (2147483647 : Int32).toInt = 2147483647 from rfl]; omega))).2 (by decide) (by decide) k) ?_
  refine Good.back (fun _ k => XS.iload X5.here hx rfl (hb hby k19_3.1.2.1) rfl k) ?_
  refine Good.back (fun _ k => XS.aloadN X5.here hx rfl (hb hby k19_3.1.2.2) rfl rfl k) ?_
  obtain ⟨T6, X6, e6, st6⟩ := getF X5 hx hZ hown (host := "") (Or.inl (wd hw 34 rfl)) Via.refl eh5 Fk (g := (mkF m 54 (a_RI5 r0 p1 zc p1 (p1 - zc) (zc + (own_max (p1 - zc) (zc + (2 : Int32))))) [.ref r0, .int (zc + (own_max (p1 - zc) (zc + (2 : Int32))))])) rfl rfl (hb hby k19_3.2.1.1)
  refine Good.back st6 ?_
  refine Good.back (fun _ k => XS.ishr X6.here hx rfl (hb hby k19_3.2.1.2) rfl k) ?_
  show Good p e below _ (T6.setTop (mkF m 58 (a_RI5 r0 p1 zc p1 (p1 - zc) (zc + (own_max (p1 - zc) (zc + (2 : Int32))))) [.int ((zc + (own_max (p1 - zc) (zc + (2 : Int32)))) >>> ((0 : Int32) &&& 31))]))
  rw [show (((zc + (own_max (p1 - zc) (zc + (2 : Int32)))) >>> ((0 : Int32) &&& 31)) : Int32) = (zc + (own_max (p1 - zc) (zc + (2 : Int32)))) from own_shr0 _]
  show Good p e below _ (T6.setTop (mkF m 58 (a_RI5 r0 p1 zc p1 (p1 - zc) (zc + (own_max (p1 - zc) (zc + (2 : Int32))))) [.int (zc + (own_max (p1 - zc) (zc + (2 : Int32))))]))
  obtain ⟨fs7, hr7, hrun7, hended7, hW7, hsame7⟩ := X6.leave (v := some (.int (zc + (own_max (p1 - zc) (zc + (2 : Int32)))))) (fun h => by rw [Bd.returns] at h; cases h)
  refine Good.done (retI X6 hx Bd.returns (hb hby k19_3.2.2) hr7) hrun7 hended7 ⟨_, _, rfl, ?_, ⟨_, rfl⟩, hW7, hsame7.mono (by decide) (by decide)⟩
  show Q19 Z r0 p1 ar kk zc bs h0 n0 _ T6.heap _
  rw [e6]
  exact ⟨rfl, N5, rfl⟩
theorem own_pn2 : plainName "java/util/Arrays" = true := by first | (simp [plainName, overriddenIn]; done) | decide +kernel
abbrev B22 := jdk_65_method_121_code
theorem k22_0 : ((own_A B22 0 (.iload_n 1) 1 ∧ own_A B22 1 (.aload_n 0) 1) ∧ own_A B22 2 .arraylength 1 ∧ own_A B22 3 (.if_icmp .ne 11) 3) ∧ (own_A B22 14 (.iload_n 1) 1 ∧ own_A B22 15 (.newarray .byte) 2) ∧ own_A B22 17 (.astore_n 2) 1 ∧ own_A B22 18 (.aload_n 0) 1 := by decide +kernel
theorem k22_1 : ((own_A B22 19 (.iconst 0) 1 ∧ own_A B22 20 (.aload_n 2) 1) ∧ own_A B22 21 (.iconst 0) 1 ∧ own_A B22 22 (.aload_n 0) 1) ∧ (own_A B22 23 .arraylength 1 ∧ own_A B22 24 (.iload_n 1) 1) ∧ own_A B22 25 (.invokestatic 304) 3 ∧ own_A B22 28 (.invokestatic 150) 3 := by decide +kernel
theorem k22_2 : own_A B22 31 (.aload_n 2) 1 ∧ own_A B22 32 .areturn 1 := by decide +kernel
theorem own_ef_22 (m : MethodId) (x0 : Addr) (x1 : Int32) : entryFrame m #[(.ref x0), (.int x1)] 3 = mkF m 0 #[.val (.ref x0), .val (.int x1), .unset] [] := by first | (simp [entryFrame, mkF, argsToLocals, Value.category]; done) | rfl
def Q22 (Z : State) (r0 : Addr) (p1 : Int32) (kk : ClassId) (zc : Int32) (bs : List Int32) (h0 : Heap) (n0 : Nat) (v : Option Value) (h : Heap) (L : List Loc) : Prop := ∃ (a2 : Addr) (k2 : ClassId), v = some (.ref a2) ∧ Fr n0 L ∧ Keep h0 h [] ∧ h0.size ≤ a2 ∧ Exa Z h a2 "[B" ∧ Arv Z h a2 k2 .byte p1 (own_v bs) (.int 0)
set_option maxRecDepth 65536 in
set_option maxHeartbeats 40000000 in
theorem rm22 (l : Launch) (Z : State) (a0 : Array Value) (hw : ∀ d ∈ tables_1, d.before a0 Z = true) (ws : List Jvm.Cond) (r0 : Addr) (p1 : Int32) (kk : ClassId) (zc : Int32) (bs : List Int32) (h0 : Heap) (n0 : Nat) (Z0 : n0 ≤ h0.size) (Va : Arv Z h0 r0 kk .byte zc (own_v bs) (.int 0)) (hb_ : (bs.length : Int) ≤ zc.toInt) (hlt : zc.toInt < p1.toInt ∧ p1.toInt ≤ 200) :
    MetFree l y_4 (head1 (Jvm.Cond.code y_4 jdk_65_method_121_code 3 (some (.array .byte)) :: ws) R_3) (fun a U => a = #[(.ref r0), (.int p1)] ∧ Z.Warmed39 U.vm ∧ U.heap = h0) (fun _ _ _ _ _ => True) (fun _ U o U' => ∃ v L, o = .returned v ∧ Q22 Z r0 p1 kk zc bs h0 n0 v U'.heap L ∧ FrameEnd U o U' L R_3.cells R_3.slots) := by
  refine MetFree.of_bodySF (plainFor_of_name own_pn2) hisR ?_
  intro p e s m args below meth c s₁ Bd hml0 hP hK
  obtain ⟨rfl, hZ, hh⟩ := hP
  have hx := Bd.exec
  have hby := Bd.bytes
  have hml : c.maxLocals = 3 := hml0
  have hown : s.vm.findClass "java/util/Arrays" = some m.cls := findClass_of_methodNamed Bd.named
  have hnm := (name_of_methodNamed Bd.named Bd.method).1
  have X0 : Stand p l e R_3 s m #[(.ref r0), (.int p1)] below meth c s₁ [] 0 0 := Stand.of_body Bd
  have e0 : s₁.heap = h0 := by rw [← hh, Bd.state]; rfl
  have N0 := Fr.nil n0
  have KR : Keep h0 h0 [] := Keep.refl h0 _
  show Good p e below (fun o U' => ∃ v L, o = .returned v ∧ Q22 Z r0 p1 kk zc bs h0 n0 v U'.heap L ∧ FrameEnd s o U' L R_3.cells R_3.slots) _
  refine Good.back (S' := s₁.setTop (mkF m 0 #[.val (.ref r0), .val (.int p1), .unset] [])) (fun t k => castTop (own_ef_22 m r0 p1) k) ?_
  have hn1 := own_nat (z := zc) (by omega)
  have hn2 := own_nat (z := p1) (by omega)
  have e0' : (0 : Int32).toNatClampNeg = 0 := rfl
  show Good p e below _ (s₁.setTop (mkF m 0 (a_RIu r0 p1) []))
  refine Good.back (fun _ k => XS.iloadN X0.here hx rfl (hb hby k22_0.1.1.1) rfl k) ?_
  refine Good.back (fun _ k => XS.aloadN X0.here hx rfl (hb hby k22_0.1.1.2) rfl rfl k) ?_
  have fc1 := Va
  obtain ⟨cl1, Ar1, qk1, S1, N1', H1, G1⟩ := fc1
  refine Good.back (X0.arraylength hx (by rw [e0]; exact Ar1.1) (State.isArrayOf_alike hZ.alike Ar1.2.1) (g := (mkF m 2 (a_RIu r0 p1) [.ref r0, .int p1])) rfl rfl (hb hby k22_0.1.2.1)) ?_
  rw [len_of S1 N1']
  show Good p e below _ (s₁.setTop (mkF m 3 (a_RIu r0 p1) [.int zc, .int p1]))
  refine Good.back (fun _ k => XS.icmpYes X0.here hx rfl (pc0 := 3) (pc' := 14) rfl (hb hby k22_0.1.2.2) rfl (feq (own_eq (by omega))).2 (by decide) (by decide) k) ?_
  refine Good.back (fun _ k => XS.iloadN X0.here hx rfl (hb hby k22_0.2.1.1) rfl k) ?_
  obtain ⟨T2, h2, k2, X2, e2, E2, A2, B2, st2⟩ := newPE X0 hx hZ (wd hw 31 rfl) e0 (g := (mkF m 15 (a_RIu r0 p1) [.int p1])) rfl (hb hby k22_0.2.1.2) rfl (own_lt (by rw [show (0 : Int32).toInt = 0 from rfl]; omega)) (cap := 200) (by omega) (by decide) (by decide) (by decide) (ad := "[B") (by decide +kernel)
  obtain ⟨b2, g2⟩ : ∃ z, z = h0.size := ⟨_, rfl⟩
  rw [← g2] at A2 B2 st2
  refine Good.back st2 ?_
  have g_b2 : n0 ≤ b2 := Nat.le_trans Z0 (Nat.le_of_eq g2.symm)
  have sz_b2 : h0.size ≤ b2 := Nat.le_trans KR.1 (Nat.le_of_eq g2.symm)
  have Z3 : n0 ≤ h2.size := Nat.le_trans Z0 E2.1
  have K4 : Keep h0 h2 [] := KR.ext E2
  have f_5 : Exa Z h2 b2 "[B" := B2
  have f_6 : Arv Z h2 b2 k2 .byte p1 [] (.int 0) := (Arv.new A2 (own_lt (by rw [show (0 : Int32).toInt = 0 from rfl]; omega))).pad (pad_rep [] (.int 0) 0)
  refine Good.back (fun _ k => XS.astoreN X2.here hx rfl (hb hby k22_0.2.2.1) rfl rfl (l' := (a_RIR r0 p1 b2)) rfl k) ?_
  refine Good.back (fun _ k => XS.aloadN X2.here hx rfl (hb hby k22_0.2.2.2) rfl rfl k) ?_
  refine Good.back (fun _ k => XS.iconst X2.here hx rfl (hb hby k22_1.1.1.1) k) ?_
  refine Good.back (fun _ k => XS.aloadN X2.here hx rfl (hb hby k22_1.1.1.2) rfl rfl k) ?_
  refine Good.back (fun _ k => XS.iconst X2.here hx rfl (hb hby k22_1.1.2.1) k) ?_
  show Good p e below _ (T2.setTop (mkF m 22 (a_RIR r0 p1 b2) [.int 0, .ref b2, .int 0, .ref r0]))
  refine Good.back (fun _ k => XS.aloadN X2.here hx rfl (hb hby k22_1.1.2.2) rfl rfl k) ?_
  have f_7 := Arv.ext Va E2
  have fc8 := f_7
  obtain ⟨cl8, Ar8, qk8, S8, N8', H8, G8⟩ := fc8
  refine Good.back (X2.arraylength hx (by rw [e2]; exact Ar8.1) (State.isArrayOf_alike hZ.alike Ar8.2.1) (g := (mkF m 23 (a_RIR r0 p1 b2) [.ref r0, .int 0, .ref b2, .int 0, .ref r0])) rfl rfl (hb hby k22_1.2.1.1)) ?_
  rw [len_of S8 N8']
  refine Good.back (fun _ k => XS.iloadN X2.here hx rfl (hb hby k22_1.2.1.2) rfl k) ?_
  obtain ⟨_, _, ⟨T9, L9, k9, n9⟩, -, X9, ⟨Lc9, hQ9, l9, y9, z9⟩, st9⟩ := Jvm.LawKit.callS X2 hx (y := y_1) hown (mvT hZ (wd hw 139 rfl)) (mvT hZ (wd hw 140 rfl)) (mvT hZ (wd hw 131 rfl)) (mvT hZ (wd hw 141 rfl)) (by decide) (backOf (W := 4) (rm23 l Z a0 hw [] zc p1  h2 n0 Z3 ) hZ (wd hw 141 rfl) (wd hw 131 rfl) (by decide) (by decide)) (g := (mkF m 25 (a_RIR r0 p1 b2) [.int p1, .int zc, .int 0, .ref b2, .int 0, .ref r0])) rfl (by rw [hml]; rfl) (argsL := [(.int zc), (.int p1)]) (rest := [(.int 0), (.ref b2), (.int 0), (.ref r0)]) (lenOf own_pd0 rfl) rfl (by show 2 * 0 + _ ≤ _; exact Nat.le_of_eq rfl) (hb hby k22_1.2.2.1) (fun _ _ => ⟨rfl, e2, (by decide : 1 + 0 ≤ _), (by decide : 200 + 0 ≤ _)⟩)
  dsimp only [Pt.U, Pt.locs, Pt.cells, Pt.slots] at X9 l9 y9 z9 st9 hQ9
  subst l9 y9 z9
  obtain ⟨rfl, N9q, eh9⟩ := hQ9
  have N9 := Fr.app N0 N9q
  refine Good.back st9 ?_
  show Good p e below _ (T9.setTop (mkF m 28 (a_RIR r0 p1 b2) [.int (own_min zc p1), .int 0, .ref b2, .int 0, .ref r0]))
  rw [show ((own_min zc p1) : Int32) = zc from own_minL hlt.1]
  show Good p e below _ (T9.setTop (mkF m 28 (a_RIR r0 p1 b2) [.int zc, .int 0, .ref b2, .int 0, .ref r0]))
  have fp10 : Arv Z h2 b2 k2 .byte p1 (List.replicate zc.toNatClampNeg (Value.int 0)) (.int 0) := f_6.pad (fun i => pad_rep [] (.int 0) zc.toNatClampNeg i)
  obtain ⟨T10, h10, L10, X10, e10, N10, Kq10, A10, st10⟩ := cpA X9 hx hZ hown (wd hw 142 rfl) (wd hw 91 rfl) (wd hw 89 rfl) (wd hw 90 rfl) eh9 f_7 fp10 (us := ((List.range zc.toNatClampNeg).map fun i => (own_v bs).getD (0 + i) (.int 0))) (Or.inl ⟨rfl, rfl⟩) (by decide) (by decide) (own_lt (by rw [show (0 : Int32).toInt = 0 from rfl]; omega)) (by omega) (by omega) rfl (by rw [List.length_replicate]; omega) N9 g_b2 (g := (mkF m 28 (a_RIR r0 p1 b2) [.int zc, .int 0, .ref b2, .int 0, .ref r0])) rfl (by rw [hml]; rfl) rfl (hb hby k22_1.2.2.2) (by decide) (W := 0) (by show 2 * 0 + _ ≤ _; exact Nat.le_of_eq rfl) (by decide)
  refine Good.back st10 ?_
  have Z11 : n0 ≤ h10.size := Nat.le_trans Z3 Kq10.1
  have K12 : Keep h0 h10 [] := K4.trans Kq10 (allS (Or.inr sz_b2) all0)
  have f_13 : Arv Z h10 b2 k2 .byte p1 (own_v bs) (.int 0) := A10.pad (fun i => own_copy bs zc.toNatClampNeg (by omega) i)
  refine Good.back (fun _ k => XS.aloadN X10.here hx rfl (hb hby k22_2.1) rfl rfl k) ?_
  show Good p e below _ (T10.setTop (mkF m 32 (a_RIR r0 p1 b2) [.ref b2]))
  obtain ⟨fs14, hr14, hrun14, hended14, hW14, hsame14⟩ := X10.leave (v := some (.ref b2)) (fun h => by rw [Bd.returns] at h; cases h)
  refine Good.done (retOut X10 hx Bd.returns rfl (Or.inr (Or.inr (Or.inr (Or.inr ⟨rfl, rfl, rfl⟩)))) (hb hby k22_2.2) hr14) hrun14 hended14 ⟨_, _, rfl, ?_, ⟨_, rfl⟩, hW14, hsame14.mono (by decide) (by decide)⟩
  show Q22 Z r0 p1 kk zc bs h0 n0 _ T10.heap _
  rw [e10]
  have f_15 := Exa.keep f_5 Kq10
  exact ⟨b2, k2, rfl, N10, K12, sz_b2, f_15, f_13⟩
theorem own_pd2 : parseMethodDescriptor "(I)I" = some ⟨[.int], some .int⟩ := by decide +kernel
theorem own_pd3 : parseMethodDescriptor "([BI)[B" = some ⟨[(.array .byte), .int], some (.array .byte)⟩ := by decide +kernel
abbrev B10 := jdk_68_method_9_code
theorem k10_0 : ((own_A B10 0 (.aload_n 0) 1 ∧ own_A B10 1 (.getfield 15) 3) ∧ own_A B10 4 .arraylength 1 ∧ own_A B10 5 (.aload_n 0) 1) ∧ (own_A B10 6 (.getfield 22) 3 ∧ own_A B10 9 .ishr 1) ∧ own_A B10 10 (.istore_n 2) 1 ∧ own_A B10 11 (.iload_n 1) 1 := by decide +kernel
theorem k10_1 : ((own_A B10 12 (.iload_n 2) 1 ∧ own_A B10 13 .isub 1) ∧ own_A B10 14 (.ifCond .le 24) 3 ∧ own_A B10 17 (.aload_n 0) 1) ∧ (own_A B10 18 (.aload_n 0) 1 ∧ own_A B10 19 (.getfield 15) 3) ∧ own_A B10 22 (.aload_n 0) 1 ∧ own_A B10 23 (.iload_n 1) 1 := by decide +kernel
theorem k10_2 : ((own_A B10 24 (.invokevirtual 104) 3 ∧ own_A B10 27 (.aload_n 0) 1) ∧ own_A B10 28 (.getfield 22) 3 ∧ own_A B10 31 .ishl 1) ∧ (own_A B10 32 (.invokestatic 108) 3 ∧ own_A B10 35 (.putfield 15) 3) ∧ own_A B10 38 .return_ 1 := by decide +kernel
theorem own_ef_10 (m : MethodId) (x0 : Addr) (x1 : Int32) : entryFrame m #[(.ref x0), (.int x1)] 3 = mkF m 0 #[.val (.ref x0), .val (.int x1), .unset] [] := by first | (simp [entryFrame, mkF, argsToLocals, Value.category]; done) | rfl
def Q10 (Z : State) (r0 : Addr) (p1 : Int32) (ar : Addr) (kk : ClassId) (zc : Int32) (ct : Int32) (bs : List Int32) (h0 : Heap) (n0 : Nat) (v : Option Value) (h : Heap) (L : List Loc) : Prop := ∃ (a2 : Addr) (k2 : ClassId) (z2 : Int32), v = none ∧ Fr n0 L ∧ Keep h0 h [r0] ∧ (a2 = ar ∨ h0.size ≤ a2) ∧ Fld Z h r0 "java/lang/AbstractStringBuilder" "coder" "B" (.int 0) ∧ Fld Z h r0 "java/lang/AbstractStringBuilder" "count" "I" (.int ct) ∧ Fld Z h r0 "java/lang/AbstractStringBuilder" "value" "[B" (.ref a2) ∧ Exa Z h a2 "[B" ∧ Arv Z h a2 k2 .byte z2 (own_v bs) (.int 0) ∧ ((bs.length : Int) ≤ z2.toInt ∧ z2.toInt ≤ 200) ∧ (p1.toInt ≤ z2.toInt)
set_option maxRecDepth 65536 in
set_option maxHeartbeats 40000000 in
theorem rm10 (l : Launch) (Z : State) (a0 : Array Value) (hw : ∀ d ∈ tables_1, d.before a0 Z = true) (ws : List Jvm.Cond) (r0 : Addr) (p1 : Int32) (ar : Addr) (kk : ClassId) (zc : Int32) (ct : Int32) (bs : List Int32) (h0 : Heap) (n0 : Nat) (Z0 : n0 ≤ h0.size) (E0 : Exa Z h0 r0 "java/lang/StringBuilder") (g0 : n0 ≤ r0) (Fk : Fld Z h0 r0 "java/lang/AbstractStringBuilder" "coder" "B" (.int 0)) (Fc : Fld Z h0 r0 "java/lang/AbstractStringBuilder" "count" "I" (.int ct)) (Fv : Fld Z h0 r0 "java/lang/AbstractStringBuilder" "value" "[B" (.ref ar)) (Ea : Exa Z h0 ar "[B") (Va : Arv Z h0 ar kk .byte zc (own_v bs) (.int 0)) (ga : n0 ≤ ar) (hc : ct.toInt = (bs.length : Int)) (hz : (bs.length : Int) ≤ zc.toInt ∧ zc.toInt ≤ 200) (hp : 0 ≤ p1.toInt ∧ p1.toInt ≤ 100) :
    MetFree l y_5 (head1 (Jvm.Cond.code y_5 jdk_68_method_9_code 3 none :: ws) R_4) (fun a U => a = #[(.ref r0), (.int p1)] ∧ Z.Warmed39 U.vm ∧ U.heap = h0) (fun _ _ _ _ _ => True) (fun _ U o U' => ∃ v L, o = .returned v ∧ Q10 Z r0 p1 ar kk zc ct bs h0 n0 v U'.heap L ∧ FrameEnd U o U' L R_4.cells R_4.slots) := by
  refine MetFree.of_bodySF (plainFor_of_name own_pn1) hisR ?_
  intro p e s m args below meth c s₁ Bd hml0 hP hK
  obtain ⟨rfl, hZ, hh⟩ := hP
  have hx := Bd.exec
  have hby := Bd.bytes
  have hml : c.maxLocals = 3 := hml0
  have hown : s.vm.findClass "java/lang/AbstractStringBuilder" = some m.cls := findClass_of_methodNamed Bd.named
  have hnm := (name_of_methodNamed Bd.named Bd.method).1
  have X0 : Stand p l e R_4 s m #[(.ref r0), (.int p1)] below meth c s₁ [] 0 0 := Stand.of_body Bd
  have e0 : s₁.heap = h0 := by rw [← hh, Bd.state]; rfl
  have N0 := Fr.nil n0
  have KR : Keep h0 h0 [r0] := Keep.refl h0 _
  show Good p e below (fun o U' => ∃ v L, o = .returned v ∧ Q10 Z r0 p1 ar kk zc ct bs h0 n0 v U'.heap L ∧ FrameEnd s o U' L R_4.cells R_4.slots) _
  refine Good.back (S' := s₁.setTop (mkF m 0 #[.val (.ref r0), .val (.int p1), .unset] [])) (fun t k => castTop (own_ef_10 m r0 p1) k) ?_
  show Good p e below _ (s₁.setTop (mkF m 0 (a_RIu r0 p1) []))
  refine Good.back (fun _ k => XS.aloadN X0.here hx rfl (hb hby k10_0.1.1.1) rfl rfl k) ?_
  obtain ⟨T1, X1, e1, st1⟩ := getF X0 hx hZ hown (host := "") (Or.inl (wd hw 32 rfl)) Via.refl e0 Fv (g := (mkF m 1 (a_RIu r0 p1) [.ref r0])) rfl rfl (hb hby k10_0.1.1.2)
  refine Good.back st1 ?_
  have fc2 := Va
  obtain ⟨cl2, Ar2, qk2, S2, N2', H2, G2⟩ := fc2
  refine Good.back (X1.arraylength hx (by rw [e1]; exact Ar2.1) (State.isArrayOf_alike hZ.alike Ar2.2.1) (g := (mkF m 4 (a_RIu r0 p1) [.ref ar])) rfl rfl (hb hby k10_0.1.2.1)) ?_
  rw [len_of S2 N2']
  refine Good.back (fun _ k => XS.aloadN X1.here hx rfl (hb hby k10_0.1.2.2) rfl rfl k) ?_
  obtain ⟨T3, X3, e3, st3⟩ := getF X1 hx hZ hown (host := "") (Or.inl (wd hw 34 rfl)) Via.refl e1 Fk (g := (mkF m 6 (a_RIu r0 p1) [.ref r0, .int zc])) rfl rfl (hb hby k10_0.2.1.1)
  refine Good.back st3 ?_
  refine Good.back (fun _ k => XS.ishr X3.here hx rfl (hb hby k10_0.2.1.2) rfl k) ?_
  show Good p e below _ (T3.setTop (mkF m 10 (a_RIu r0 p1) [.int (zc >>> ((0 : Int32) &&& 31))]))
  rw [show ((zc >>> ((0 : Int32) &&& 31)) : Int32) = zc from own_shr0 _]
  refine Good.back (fun _ k => XS.istoreN X3.here hx rfl (hb hby k10_0.2.2.1) rfl (l' := (a_RII r0 p1 zc)) rfl k) ?_
  refine Good.back (fun _ k => XS.iloadN X3.here hx rfl (hb hby k10_0.2.2.2) rfl k) ?_
  refine Good.back (fun _ k => XS.iloadN X3.here hx rfl (hb hby k10_1.1.1.1) rfl k) ?_
  refine Good.back (fun _ k => XS.isub X3.here hx rfl (hb hby k10_1.1.1.2) rfl k) ?_
  show Good p e below _ (T3.setTop (mkF m 14 (a_RII r0 p1 zc) [.int (p1 - zc)]))
  by_cases hc14_4 : (0 : Int32) < (p1 - zc)
  · refine Good.back (fun _ k => XS.ifNo X3.here hx rfl (hb hby k10_1.1.2.1) rfl ((if0 _ _).trans (tlt hc14_4).2.2.2) k) ?_
    have hgr := own_gr hc14_4 ⟨by omega, hz.2⟩ hp
    have hnc := own_nc (by omega) hgr hp.2
    show Good p e below _ (T3.setTop (mkF m 17 (a_RII r0 p1 zc) []))
    refine Good.back (fun _ k => XS.aloadN X3.here hx rfl (hb hby k10_1.1.2.2) rfl rfl k) ?_
    refine Good.back (fun _ k => XS.aloadN X3.here hx rfl (hb hby k10_1.2.1.1) rfl rfl k) ?_
    obtain ⟨T5, X5, e5, st5⟩ := getF X3 hx hZ hown (host := "") (Or.inl (wd hw 32 rfl)) Via.refl e3 Fv (g := (mkF m 19 (a_RII r0 p1 zc) [.ref r0, .ref r0])) rfl rfl (hb hby k10_1.2.1.2)
    refine Good.back st5 ?_
    refine Good.back (fun _ k => XS.aloadN X5.here hx rfl (hb hby k10_1.2.2.1) rfl rfl k) ?_
    refine Good.back (fun _ k => XS.iloadN X5.here hx rfl (hb hby k10_1.2.2.2) rfl k) ?_
    obtain ⟨cq6, qk6, qk6'⟩ := E0.cell
    obtain ⟨_, _, ⟨T6, L6, k6, n6⟩, -, X6, ⟨Lc6, hQ6, l6, y6, z6⟩, st6⟩ := X5.privateBack hx (y := y_3) hown (mvT hZ (wd hw 120 rfl)) (mvT hZ (wd hw 121 rfl)) (own_selPriv (mvT hZ (wd hw 123 rfl)) (mvT hZ (wd hw 121 rfl)) (Cond.privateMethod_at (mvP hZ (wd hw 122 rfl) (args := #[]))) (by decide)) (Cond.privateMethod_at (mvP hZ (wd hw 122 rfl) (args := #[]))) (mvT hZ (wd hw 124 rfl)) (by decide) (backOf (W := 2) (rm19 l Z a0 hw [] r0 p1 ar kk zc bs h0 n0 Z0 E0 Fk Fv Va (by omega) (hgr) (hp.2)) hZ (wd hw 124 rfl) (wd hw 26 rfl) (by decide) (by decide)) (g := (mkF m 24 (a_RII r0 p1 zc) [.int p1, .ref r0, .ref ar, .ref r0])) rfl (by rw [hml]; rfl) (Steps.refl _) (a := r0) (by rw [e5]; exact qk6) qk6' (argsL := [(.int p1)]) (rest := [(.ref ar), (.ref r0)]) (lenOf own_pd2 rfl) rfl (by show 2 * 0 + _ ≤ _; exact Nat.le_of_eq rfl) (hb hby k10_2.1.1.1) (fun _ _ => ⟨rfl, e5, (by decide : 0 + 0 ≤ _), (by decide : 0 + 0 ≤ _)⟩)
    dsimp only [Pt.U, Pt.locs, Pt.cells, Pt.slots] at X6 l6 y6 z6 st6 hQ6
    subst l6 y6 z6
    obtain ⟨rfl, N6q, eh6⟩ := hQ6
    have N6 := Fr.app N0 N6q
    refine Good.back (fun _ k => st6.trans k) ?_
    refine Good.back (fun _ k => XS.aloadN X6.here hx rfl (hb hby k10_2.1.1.2) rfl rfl k) ?_
    obtain ⟨T7, X7, e7, st7⟩ := getF X6 hx hZ hown (host := "") (Or.inl (wd hw 34 rfl)) Via.refl eh6 Fk (g := (mkF m 28 (a_RII r0 p1 zc) [.ref r0, .int (zc + (own_max (p1 - zc) (zc + (2 : Int32)))), .ref ar, .ref r0])) rfl rfl (hb hby k10_2.1.2.1)
    refine Good.back st7 ?_
    refine Good.back (fun _ k => XS.ishl X7.here hx rfl (hb hby k10_2.1.2.2) rfl k) ?_
    show Good p e below _ (T7.setTop (mkF m 32 (a_RII r0 p1 zc) [.int ((zc + (own_max (p1 - zc) (zc + (2 : Int32)))) <<< ((0 : Int32) &&& 31)), .ref ar, .ref r0]))
    rw [show (((zc + (own_max (p1 - zc) (zc + (2 : Int32)))) <<< ((0 : Int32) &&& 31)) : Int32) = (zc + (own_max (p1 - zc) (zc + (2 : Int32)))) from own_shl0 _]
    obtain ⟨_, _, ⟨T8, L8, k8, n8⟩, -, X8, ⟨Lc8, hQ8, l8, y8, z8⟩, st8⟩ := Jvm.LawKit.callS X7 hx (y := y_4) hown (mvT hZ (wd hw 135 rfl)) (mvT hZ (wd hw 136 rfl)) (mvT hZ (wd hw 137 rfl)) (mvT hZ (wd hw 138 rfl)) (by decide) (backOf (W := 1) (rm22 l Z a0 hw [] ar (zc + (own_max (p1 - zc) (zc + (2 : Int32)))) kk zc bs h0 n0 Z0 Va (hz.1) (⟨by omega, hnc.2⟩)) hZ (wd hw 138 rfl) (wd hw 137 rfl) (by decide) (by decide)) (g := (mkF m 32 (a_RII r0 p1 zc) [.int (zc + (own_max (p1 - zc) (zc + (2 : Int32)))), .ref ar, .ref r0])) rfl (by rw [hml]; rfl) (argsL := [(.ref ar), (.int (zc + (own_max (p1 - zc) (zc + (2 : Int32)))))]) (rest := [(.ref r0)]) (lenOf own_pd3 rfl) rfl (by show 2 * 0 + _ ≤ _; exact Nat.le_of_eq rfl) (hb hby k10_2.2.1.1) (fun _ _ => ⟨rfl, e7, (by decide : 0 + 1 ≤ _), (by decide : 0 + 200 ≤ _)⟩)
    dsimp only [Pt.U, Pt.locs, Pt.cells, Pt.slots] at X8 l8 y8 z8 st8 hQ8
    subst l8 y8 z8
    obtain ⟨a2_8, k2_8, rfl, N8q, Kq8, o8_0, o8_1, o8_2⟩ := hQ8
    have N8 := Fr.app N6 N8q
    have Z9 : n0 ≤ T8.heap.size := Nat.le_trans Z0 Kq8.1
    have K10 : Keep h0 T8.heap [r0] := KR.trans Kq8 all0
    have g_a2_8 : n0 ≤ a2_8 := Nat.le_trans Z0 o8_0
    have sz_a2_8 : h0.size ≤ a2_8 := Nat.le_trans KR.1 o8_0
    refine Good.back st8 ?_
    have f_11 := Fld.keep Fv Kq8 nin0
    have f_12 := Exa.keep E0 Kq8
    obtain ⟨T13, h13, X13, e13, W13, st13⟩ := putF X8 hx hZ hown (host := "") (Or.inl (wd hw 32 rfl)) Via.refl rfl f_11 f_12 (Or.inl (wd hw 33 rfl)) (wd hw 17 rfl) (ty := (.array .byte)) (by decide) rfl rfl (g := (mkF m 35 (a_RII r0 p1 zc) [.ref a2_8, .ref r0])) rfl rfl (hb hby k10_2.2.1.2)
    refine Good.back st13 ?_
    have f_14 : Fld Z h13 r0 "java/lang/AbstractStringBuilder" "value" "[B" (.ref a2_8) := Fld.same W13 f_11
    have N13 := Fr.snoc X13 N8 g0
    have Z15 : n0 ≤ h13.size := Nat.le_trans Z9 (Keep.of_wr W13).1
    have K16 : Keep h0 h13 [r0] := K10.wr W13 (Or.inl (List.mem_of_getElem? (i := 0) rfl))
    show Good p e below _ (T13.setTop (mkF m 38 (a_RII r0 p1 zc) []))
    obtain ⟨fs17, hr17, hrun17, hended17, hW17, hsame17⟩ := X13.leave (v := none) (fun _ => rfl)
    refine Good.done (X13.returnOut hx Bd.returns (hb hby k10_2.2.2) hr17) hrun17 hended17 ⟨_, _, rfl, ?_, ⟨_, rfl⟩, hW17, hsame17.mono (by decide) (by decide)⟩
    show Q10 Z r0 p1 ar kk zc ct bs h0 n0 _ T13.heap _
    rw [e13]
    have f_18 := Fld.keep Fk Kq8 nin0
    have f_19 : Fld Z h13 r0 "java/lang/AbstractStringBuilder" "coder" "B" (.int 0) := Fld.other W13 f_18 (Or.inr (slot_ne (Or.inl (wd hw 35 rfl)) (Or.inl (wd hw 33 rfl)) (by decide) (t := .byte) (t' := (.array .byte)) (by decide) (by decide)))
    have f_20 := Fld.keep Fc Kq8 nin0
    have f_21 : Fld Z h13 r0 "java/lang/AbstractStringBuilder" "count" "I" (.int ct) := Fld.other W13 f_20 (Or.inr (slot_ne (Or.inl (wd hw 66 rfl)) (Or.inl (wd hw 33 rfl)) (by decide) (t := .int) (t' := (.array .byte)) (by decide) (by decide)))
    have f_22 : Exa Z h13 a2_8 "[B" := Exa.wr W13 o8_1
    have ne_r0_a2_8_24 : r0 ≠ a2_8 := Nat.ne_of_lt (Nat.lt_of_lt_of_le Fv.lt o8_0)
    have f_23 : Arv Z h13 a2_8 k2_8 .byte (zc + (own_max (p1 - zc) (zc + (2 : Int32)))) (own_v bs) (.int 0) := Arv.other o8_2 W13 (Ne.symm ne_r0_a2_8_24)
    exact ⟨a2_8, k2_8, (zc + (own_max (p1 - zc) (zc + (2 : Int32)))), rfl, N13, K16, (Or.inr sz_a2_8), f_19, f_21, f_14, f_22, f_23, (⟨by omega, hnc.2⟩), (hnc.1)⟩
  · refine Good.back (fun _ k => XS.ifYes X3.here hx rfl (pc0 := 14) (pc' := 38) rfl (hb hby k10_1.1.2.1) rfl ((if0 _ _).trans (flt hc14_4).2.2.2) (by decide) (by decide) k) ?_
    show Good p e below _ (T3.setTop (mkF m 38 (a_RII r0 p1 zc) []))
    obtain ⟨fs25, hr25, hrun25, hended25, hW25, hsame25⟩ := X3.leave (v := none) (fun _ => rfl)
    refine Good.done (X3.returnOut hx Bd.returns (hb hby k10_2.2.2) hr25) hrun25 hended25 ⟨_, _, rfl, ?_, ⟨_, rfl⟩, hW25, hsame25.mono (by decide) (by decide)⟩
    show Q10 Z r0 p1 ar kk zc ct bs h0 n0 _ T3.heap _
    rw [e3]
    exact ⟨ar, kk, zc, rfl, N0, KR, (Or.inl rfl), Fk, Fc, Fv, Ea, Va, (hz), (own_ngr hc14_4 ⟨by omega, hz.2⟩ hp)⟩
theorem own_pn3 : plainName "java/lang/String" = true := by first | (simp [plainName, overriddenIn]; done) | decide +kernel
abbrev B9 := jdk_42_method_152_code
theorem k9_0 : ((own_A B9 0 (.getstatic 38) 3 ∧ own_A B9 3 (.ifCond .eq 10) 3) ∧ own_A B9 6 (.aload_n 0) 1) ∧ (own_A B9 7 (.getfield 15) 3 ∧ own_A B9 10 (.goto 4) 3) ∧ own_A B9 14 .ireturn 1 := by decide +kernel
theorem own_ef_9 (m : MethodId) (x0 : Addr) : entryFrame m #[(.ref x0)] 1 = mkF m 0 #[.val (.ref x0)] [] := by first | (simp [entryFrame, mkF, argsToLocals, Value.category]; done) | rfl
def Q9 (Z : State) (r0 : Addr) (cs : Int32) (h0 : Heap) (n0 : Nat) (v : Option Value) (h : Heap) (L : List Loc) : Prop := v = some (.int 0) ∧ Fr n0 L ∧ h = h0
set_option maxRecDepth 65536 in
set_option maxHeartbeats 40000000 in
theorem rm9 (l : Launch) (Z : State) (a0 : Array Value) (hw : ∀ d ∈ tables_1, d.before a0 Z = true) (ws : List Jvm.Cond) (r0 : Addr) (cs : Int32) (h0 : Heap) (n0 : Nat) (Z0 : n0 ≤ h0.size) (S_cs : Sta Z h0 "java/lang/String" "COMPACT_STRINGS" "Z" (.int cs)) (hcs : ¬ (cs = (0 : Int32))) (Fsc : Fld Z h0 r0 "java/lang/String" "coder" "B" (.int 0)) :
    MetFree l y_6 (head1 (Jvm.Cond.code y_6 jdk_42_method_152_code 1 (some .byte) :: ws) R_0) (fun a U => a = #[(.ref r0)] ∧ Z.Warmed39 U.vm ∧ U.heap = h0) (fun _ _ _ _ _ => True) (fun _ U o U' => ∃ v L, o = .returned v ∧ Q9 Z r0 cs h0 n0 v U'.heap L ∧ FrameEnd U o U' L R_0.cells R_0.slots) := by
  refine MetFree.of_bodySF (plainFor_of_name own_pn3) hisR ?_
  intro p e s m args below meth c s₁ Bd hml0 hP hK
  obtain ⟨rfl, hZ, hh⟩ := hP
  have hx := Bd.exec
  have hby := Bd.bytes
  have hml : c.maxLocals = 1 := hml0
  have hown : s.vm.findClass "java/lang/String" = some m.cls := findClass_of_methodNamed Bd.named
  have hnm := (name_of_methodNamed Bd.named Bd.method).1
  have X0 : Stand p l e R_0 s m #[(.ref r0)] below meth c s₁ [] 0 0 := Stand.of_body Bd
  have e0 : s₁.heap = h0 := by rw [← hh, Bd.state]; rfl
  have N0 := Fr.nil n0
  show Good p e below (fun o U' => ∃ v L, o = .returned v ∧ Q9 Z r0 cs h0 n0 v U'.heap L ∧ FrameEnd s o U' L R_0.cells R_0.slots) _
  refine Good.back (S' := s₁.setTop (mkF m 0 #[.val (.ref r0)] [])) (fun t k => castTop (own_ef_9 m r0) k) ?_
  show Good p e below _ (s₁.setTop (mkF m 0 (a_R r0) []))
  obtain ⟨T1, X1, e1, st1⟩ := getS2 X0 hx hZ hown (host := "") (Or.inl (wd hw 63 rfl)) Via.refl e0 S_cs (g := (mkF m 0 (a_R r0) [])) rfl (hb hby k9_0.1.1.1)
  refine Good.back st1 ?_
  show Good p e below _ (T1.setTop (mkF m 3 (a_R r0) [.int cs]))
  refine Good.back (fun _ k => XS.ifNo X1.here hx rfl (hb hby k9_0.1.1.2) rfl ((if0 _ _).trans (feq hcs).1) k) ?_
  refine Good.back (fun _ k => XS.aloadN X1.here hx rfl (hb hby k9_0.1.2) rfl rfl k) ?_
  obtain ⟨T2, X2, e2, st2⟩ := getF X1 hx hZ hown (host := "") (Or.inl (wd hw 64 rfl)) Via.refl e1 Fsc (g := (mkF m 7 (a_R r0) [.ref r0])) rfl rfl (hb hby k9_0.2.1.1)
  refine Good.back st2 ?_
  refine Good.back (fun _ k => XS.goto X2.here hx rfl (pc0 := 10) (pc' := 14) rfl (hb hby k9_0.2.1.2) (by decide) (by decide) k) ?_
  show Good p e below _ (T2.setTop (mkF m 14 (a_R r0) [.int 0]))
  obtain ⟨fs3, hr3, hrun3, hended3, hW3, hsame3⟩ := X2.leave (v := some (.int 0)) (fun h => by rw [Bd.returns] at h; cases h)
  refine Good.done (retN X2 hx (t := .byte) Bd.returns (by simp) (hb hby k9_0.2.2) hr3) hrun3 hended3 ⟨_, _, rfl, ?_, ⟨_, rfl⟩, hW3, hsame3.mono (by decide) (by decide)⟩
  show Q9 Z r0 cs h0 n0 _ T2.heap _
  rw [e2]
  exact ⟨rfl, N0, rfl⟩
theorem own_pd4 : parseMethodDescriptor "()B" = some ⟨[], some .byte⟩ := by decide +kernel
abbrev B8 := jdk_42_method_54_code
theorem k8_0 : ((own_A B8 0 (.aload_n 0) 1 ∧ own_A B8 1 (.getfield 9) 3) ∧ own_A B8 4 .arraylength 1 ∧ own_A B8 5 (.aload_n 0) 1) ∧ (own_A B8 6 (.invokevirtual 335) 3 ∧ own_A B8 9 .ishr 1) ∧ own_A B8 10 .ireturn 1 := by decide +kernel
theorem own_ef_8 (m : MethodId) (x0 : Addr) : entryFrame m #[(.ref x0)] 1 = mkF m 0 #[.val (.ref x0)] [] := by first | (simp [entryFrame, mkF, argsToLocals, Value.category]; done) | rfl
def Q8 (Z : State) (r0 : Addr) (cs : Int32) (sv : Addr) (ks : ClassId) (zs : Int32) (cl : List Int32) (h0 : Heap) (n0 : Nat) (v : Option Value) (h : Heap) (L : List Loc) : Prop := v = some (.int zs) ∧ Fr n0 L ∧ h = h0
set_option maxRecDepth 65536 in
set_option maxHeartbeats 40000000 in
theorem rm8 (l : Launch) (Z : State) (a0 : Array Value) (hw : ∀ d ∈ tables_1, d.before a0 Z = true) (ws : List Jvm.Cond) (r0 : Addr) (cs : Int32) (sv : Addr) (ks : ClassId) (zs : Int32) (cl : List Int32) (h0 : Heap) (n0 : Nat) (Z0 : n0 ≤ h0.size) (S_cs : Sta Z h0 "java/lang/String" "COMPACT_STRINGS" "Z" (.int cs)) (hcs : ¬ (cs = (0 : Int32))) (Es : Exa Z h0 r0 "java/lang/String") (Fsv : Fld Z h0 r0 "java/lang/String" "value" "[B" (.ref sv)) (Fsc : Fld Z h0 r0 "java/lang/String" "coder" "B" (.int 0)) (Vs : Arv Z h0 sv ks .byte zs (own_v cl) (.int 0)) (hzs : zs.toInt = (cl.length : Int)) :
    MetFree l y_7 (head1 (Jvm.Cond.code y_7 jdk_42_method_54_code 1 (some .int) :: ws) R_5) (fun a U => a = #[(.ref r0)] ∧ Z.Warmed39 U.vm ∧ U.heap = h0) (fun _ _ _ _ _ => True) (fun _ U o U' => ∃ v L, o = .returned v ∧ Q8 Z r0 cs sv ks zs cl h0 n0 v U'.heap L ∧ FrameEnd U o U' L R_5.cells R_5.slots) := by
  refine MetFree.of_bodySF (plainFor_of_name own_pn3) hisR ?_
  intro p e s m args below meth c s₁ Bd hml0 hP hK
  obtain ⟨rfl, hZ, hh⟩ := hP
  have hx := Bd.exec
  have hby := Bd.bytes
  have hml : c.maxLocals = 1 := hml0
  have hown : s.vm.findClass "java/lang/String" = some m.cls := findClass_of_methodNamed Bd.named
  have hnm := (name_of_methodNamed Bd.named Bd.method).1
  have X0 : Stand p l e R_5 s m #[(.ref r0)] below meth c s₁ [] 0 0 := Stand.of_body Bd
  have e0 : s₁.heap = h0 := by rw [← hh, Bd.state]; rfl
  have N0 := Fr.nil n0
  show Good p e below (fun o U' => ∃ v L, o = .returned v ∧ Q8 Z r0 cs sv ks zs cl h0 n0 v U'.heap L ∧ FrameEnd s o U' L R_5.cells R_5.slots) _
  refine Good.back (S' := s₁.setTop (mkF m 0 #[.val (.ref r0)] [])) (fun t k => castTop (own_ef_8 m r0) k) ?_
  show Good p e below _ (s₁.setTop (mkF m 0 (a_R r0) []))
  refine Good.back (fun _ k => XS.aloadN X0.here hx rfl (hb hby k8_0.1.1.1) rfl rfl k) ?_
  obtain ⟨T1, X1, e1, st1⟩ := getF X0 hx hZ hown (host := "") (Or.inl (wd hw 57 rfl)) Via.refl e0 Fsv (g := (mkF m 1 (a_R r0) [.ref r0])) rfl rfl (hb hby k8_0.1.1.2)
  refine Good.back st1 ?_
  have fc2 := Vs
  obtain ⟨cl2, Ar2, qk2, S2, N2', H2, G2⟩ := fc2
  refine Good.back (X1.arraylength hx (by rw [e1]; exact Ar2.1) (State.isArrayOf_alike hZ.alike Ar2.2.1) (g := (mkF m 4 (a_R r0) [.ref sv])) rfl rfl (hb hby k8_0.1.2.1)) ?_
  rw [len_of S2 N2']
  refine Good.back (fun _ k => XS.aloadN X1.here hx rfl (hb hby k8_0.1.2.2) rfl rfl k) ?_
  obtain ⟨cq3, kq3, q3a, q3b, q3c⟩ := isOf hZ e1 Es
  obtain ⟨_, _, ⟨T3, L3, k3, n3⟩, -, X3, ⟨Lc3, hQ3, l3, y3, z3⟩, st3⟩ := X1.virtualBack hx (y := y_6) (z := y_6) hown (mvT hZ (wd hw 58 rfl)) (mvT hZ (wd hw 59 rfl)) (notFace_of_selects (args := #[]) (mvT hZ (wd hw 61 rfl))) (mvT hZ (wd hw 61 rfl)) (mvT hZ (wd hw 60 rfl)) (by decide) (backOf (W := 1) (rm9 l Z a0 hw [] r0 cs h0 n0 Z0 S_cs (hcs) Fsc) hZ (wd hw 62 rfl) (wd hw 30 rfl) (by decide) (by decide)) q3a q3c (g := (mkF m 6 (a_R r0) [.ref r0, .int zs])) rfl (by rw [hml]; rfl) (Steps.refl _) (argsL := []) (rest := [(.int zs)]) (lenOf own_pd4 rfl) rfl (by show 2 * 0 + _ ≤ _; exact Nat.le_of_eq rfl) (hb hby k8_0.2.1.1) (fun _ _ => ⟨rfl, e1, (by decide : 0 + 0 ≤ _), (by decide : 0 + 0 ≤ _)⟩)
  dsimp only [Pt.U, Pt.locs, Pt.cells, Pt.slots] at X3 l3 y3 z3 st3 hQ3
  subst l3 y3 z3
  obtain ⟨rfl, N3q, eh3⟩ := hQ3
  have N3 := Fr.app N0 N3q
  refine Good.back (fun _ k => st3.trans k) ?_
  refine Good.back (fun _ k => XS.ishr X3.here hx rfl (hb hby k8_0.2.1.2) rfl k) ?_
  show Good p e below _ (T3.setTop (mkF m 10 (a_R r0) [.int (zs >>> ((0 : Int32) &&& 31))]))
  rw [show ((zs >>> ((0 : Int32) &&& 31)) : Int32) = zs from own_shr0 _]
  show Good p e below _ (T3.setTop (mkF m 10 (a_R r0) [.int zs]))
  obtain ⟨fs4, hr4, hrun4, hended4, hW4, hsame4⟩ := X3.leave (v := some (.int zs)) (fun h => by rw [Bd.returns] at h; cases h)
  refine Good.done (retI X3 hx Bd.returns (hb hby k8_0.2.2) hr4) hrun4 hended4 ⟨_, _, rfl, ?_, ⟨_, rfl⟩, hW4, hsame4.mono (by decide) (by decide)⟩
  show Q8 Z r0 cs sv ks zs cl h0 n0 _ T3.heap _
  rw [eh3]
  exact ⟨rfl, N3, rfl⟩
abbrev B12 := jdk_68_method_71_code
theorem k12_0 : ((own_A B12 0 (.getstatic 18) 3 ∧ own_A B12 3 (.ifCond .eq 18) 3) ∧ own_A B12 6 (.aload_n 0) 1 ∧ own_A B12 7 (.getfield 22) 3) ∧ (own_A B12 10 (.aload_n 1) 1 ∧ own_A B12 11 (.invokevirtual 40) 3) ∧ own_A B12 14 (.if_icmp .eq 7) 3 ∧ own_A B12 21 .return_ 1 := by decide +kernel
theorem own_ef_12 (m : MethodId) (x0 : Addr) (x1 : Addr) : entryFrame m #[(.ref x0), (.ref x1)] 2 = mkF m 0 #[.val (.ref x0), .val (.ref x1)] [] := by first | (simp [entryFrame, mkF, argsToLocals, Value.category]; done) | rfl
def Q12 (Z : State) (r0 : Addr) (r1 : Addr) (cs : Int32) (h0 : Heap) (n0 : Nat) (v : Option Value) (h : Heap) (L : List Loc) : Prop := v = none ∧ Fr n0 L ∧ h = h0
set_option maxRecDepth 65536 in
set_option maxHeartbeats 40000000 in
theorem rm12 (l : Launch) (Z : State) (a0 : Array Value) (hw : ∀ d ∈ tables_1, d.before a0 Z = true) (ws : List Jvm.Cond) (r0 : Addr) (r1 : Addr) (cs : Int32) (h0 : Heap) (n0 : Nat) (Z0 : n0 ≤ h0.size) (S_cs : Sta Z h0 "java/lang/String" "COMPACT_STRINGS" "Z" (.int cs)) (hcs : ¬ (cs = (0 : Int32))) (E0 : Exa Z h0 r0 "java/lang/StringBuilder") (Fk : Fld Z h0 r0 "java/lang/AbstractStringBuilder" "coder" "B" (.int 0)) (Es : Exa Z h0 r1 "java/lang/String") (Fsc : Fld Z h0 r1 "java/lang/String" "coder" "B" (.int 0)) :
    MetFree l y_8 (head1 (Jvm.Cond.code y_8 jdk_68_method_71_code 2 none :: ws) R_5) (fun a U => a = #[(.ref r0), (.ref r1)] ∧ Z.Warmed39 U.vm ∧ U.heap = h0) (fun _ _ _ _ _ => True) (fun _ U o U' => ∃ v L, o = .returned v ∧ Q12 Z r0 r1 cs h0 n0 v U'.heap L ∧ FrameEnd U o U' L R_5.cells R_5.slots) := by
  refine MetFree.of_bodySF (plainFor_of_name own_pn1) hisR ?_
  intro p e s m args below meth c s₁ Bd hml0 hP hK
  obtain ⟨rfl, hZ, hh⟩ := hP
  have hx := Bd.exec
  have hby := Bd.bytes
  have hml : c.maxLocals = 2 := hml0
  have hown : s.vm.findClass "java/lang/AbstractStringBuilder" = some m.cls := findClass_of_methodNamed Bd.named
  have hnm := (name_of_methodNamed Bd.named Bd.method).1
  have X0 : Stand p l e R_5 s m #[(.ref r0), (.ref r1)] below meth c s₁ [] 0 0 := Stand.of_body Bd
  have e0 : s₁.heap = h0 := by rw [← hh, Bd.state]; rfl
  have N0 := Fr.nil n0
  show Good p e below (fun o U' => ∃ v L, o = .returned v ∧ Q12 Z r0 r1 cs h0 n0 v U'.heap L ∧ FrameEnd s o U' L R_5.cells R_5.slots) _
  refine Good.back (S' := s₁.setTop (mkF m 0 #[.val (.ref r0), .val (.ref r1)] [])) (fun t k => castTop (own_ef_12 m r0 r1) k) ?_
  show Good p e below _ (s₁.setTop (mkF m 0 (a_RR r0 r1) []))
  obtain ⟨T1, X1, e1, st1⟩ := getS2 X0 hx hZ hown (host := "") (Or.inl (wd hw 29 rfl)) Via.refl e0 S_cs (g := (mkF m 0 (a_RR r0 r1) [])) rfl (hb hby k12_0.1.1.1)
  refine Good.back st1 ?_
  show Good p e below _ (T1.setTop (mkF m 3 (a_RR r0 r1) [.int cs]))
  refine Good.back (fun _ k => XS.ifNo X1.here hx rfl (hb hby k12_0.1.1.2) rfl ((if0 _ _).trans (feq hcs).1) k) ?_
  refine Good.back (fun _ k => XS.aloadN X1.here hx rfl (hb hby k12_0.1.2.1) rfl rfl k) ?_
  obtain ⟨T2, X2, e2, st2⟩ := getF X1 hx hZ hown (host := "") (Or.inl (wd hw 34 rfl)) Via.refl e1 Fk (g := (mkF m 7 (a_RR r0 r1) [.ref r0])) rfl rfl (hb hby k12_0.1.2.2)
  refine Good.back st2 ?_
  refine Good.back (fun _ k => XS.aloadN X2.here hx rfl (hb hby k12_0.2.1.1) rfl rfl k) ?_
  obtain ⟨cq3, kq3, q3a, q3b, q3c⟩ := isOf hZ e2 Es
  obtain ⟨_, _, ⟨T3, L3, k3, n3⟩, -, X3, ⟨Lc3, hQ3, l3, y3, z3⟩, st3⟩ := X2.virtualBack hx (y := y_6) (z := y_6) hown (mvT hZ (wd hw 82 rfl)) (mvT hZ (wd hw 59 rfl)) (notFace_of_selects (args := #[]) (mvT hZ (wd hw 61 rfl))) (mvT hZ (wd hw 61 rfl)) (mvT hZ (wd hw 60 rfl)) (by decide) (backOf (W := 1) (rm9 l Z a0 hw [] r1 cs h0 n0 Z0 S_cs (hcs) Fsc) hZ (wd hw 62 rfl) (wd hw 30 rfl) (by decide) (by decide)) q3a q3c (g := (mkF m 11 (a_RR r0 r1) [.ref r1, .int 0])) rfl (by rw [hml]; rfl) (Steps.refl _) (argsL := []) (rest := [(.int 0)]) (lenOf own_pd4 rfl) rfl (by show 2 * 0 + _ ≤ _; exact Nat.le_of_eq rfl) (hb hby k12_0.2.1.2) (fun _ _ => ⟨rfl, e2, (by decide : 0 + 0 ≤ _), (by decide : 0 + 0 ≤ _)⟩)
  dsimp only [Pt.U, Pt.locs, Pt.cells, Pt.slots] at X3 l3 y3 z3 st3 hQ3
  subst l3 y3 z3
  obtain ⟨rfl, N3q, eh3⟩ := hQ3
  have N3 := Fr.app N0 N3q
  refine Good.back (fun _ k => st3.trans k) ?_
  refine Good.back (fun _ k => XS.icmpYes X3.here hx rfl (pc0 := 14) (pc' := 21) rfl (hb hby k12_0.2.2.1) rfl (teq (by decide : ((0 : Int32) = (0 : Int32)))).1 (by decide) (by decide) k) ?_
  show Good p e below _ (T3.setTop (mkF m 21 (a_RR r0 r1) []))
  obtain ⟨fs4, hr4, hrun4, hended4, hW4, hsame4⟩ := X3.leave (v := none) (fun _ => rfl)
  refine Good.done (X3.returnOut hx Bd.returns (hb hby k12_0.2.2.2) hr4) hrun4 hended4 ⟨_, _, rfl, ?_, ⟨_, rfl⟩, hW4, hsame4.mono (by decide) (by decide)⟩
  show Q12 Z r0 r1 cs h0 n0 _ T3.heap _
  rw [eh3]
  exact ⟨rfl, N3, rfl⟩
abbrev B13 := jdk_42_method_147_code
theorem k13_0 : ((own_A B13 0 (.aload_n 0) 1 ∧ own_A B13 1 (.invokevirtual 335) 3) ∧ own_A B13 4 (.iload_n 3) 1 ∧ own_A B13 5 (.if_icmp .ne 23) 3) ∧ (own_A B13 8 (.aload_n 0) 1 ∧ own_A B13 9 (.getfield 9) 3) ∧ own_A B13 12 (.iconst 0) 1 ∧ own_A B13 13 (.aload_n 1) 1 := by decide +kernel
theorem k13_1 : ((own_A B13 14 (.iload_n 2) 1 ∧ own_A B13 15 (.iload_n 3) 1) ∧ own_A B13 16 .ishl 1 ∧ own_A B13 17 (.aload_n 0) 1) ∧ (own_A B13 18 (.getfield 9) 3 ∧ own_A B13 21 .arraylength 1) ∧ own_A B13 22 (.invokestatic 212) 3 ∧ own_A B13 25 (.goto 18) 3 := by decide +kernel
theorem k13_2 : own_A B13 43 .return_ 1 := by decide +kernel
theorem own_ef_13 (m : MethodId) (x0 : Addr) (x1 : Addr) (x2 : Int32) (x3 : Int32) : entryFrame m #[(.ref x0), (.ref x1), (.int x2), (.int x3)] 4 = mkF m 0 #[.val (.ref x0), .val (.ref x1), .val (.int x2), .val (.int x3)] [] := by first | (simp [entryFrame, mkF, argsToLocals, Value.category]; done) | rfl
def Q13 (Z : State) (r0 : Addr) (ar : Addr) (p2 : Int32) (cs : Int32) (sv : Addr) (ks : ClassId) (zs : Int32) (cl : List Int32) (kk : ClassId) (zc : Int32) (bs : List Int32) (h0 : Heap) (n0 : Nat) (v : Option Value) (h : Heap) (L : List Loc) : Prop := v = none ∧ Fr n0 L ∧ Keep h0 h [ar] ∧ Arv Z h ar kk .byte zc (own_v (bs ++ cl)) (.int 0)
set_option maxRecDepth 65536 in
set_option maxHeartbeats 40000000 in
theorem rm13 (l : Launch) (Z : State) (a0 : Array Value) (hw : ∀ d ∈ tables_1, d.before a0 Z = true) (ws : List Jvm.Cond) (r0 : Addr) (ar : Addr) (p2 : Int32) (cs : Int32) (sv : Addr) (ks : ClassId) (zs : Int32) (cl : List Int32) (kk : ClassId) (zc : Int32) (bs : List Int32) (h0 : Heap) (n0 : Nat) (Z0 : n0 ≤ h0.size) (S_cs : Sta Z h0 "java/lang/String" "COMPACT_STRINGS" "Z" (.int cs)) (hcs : ¬ (cs = (0 : Int32))) (Es : Exa Z h0 r0 "java/lang/String") (Fsv : Fld Z h0 r0 "java/lang/String" "value" "[B" (.ref sv)) (Fsc : Fld Z h0 r0 "java/lang/String" "coder" "B" (.int 0)) (Vs : Arv Z h0 sv ks .byte zs (own_v cl) (.int 0)) (hzs : zs.toInt = (cl.length : Int)) (Va : Arv Z h0 ar kk .byte zc (own_v bs) (.int 0)) (ga : n0 ≤ ar) (hp : p2.toInt = (bs.length : Int)) (hft : ((bs.length + cl.length : Nat) : Int) ≤ zc.toInt) :
    MetFree l y_9 (head1 (Jvm.Cond.code y_9 jdk_42_method_147_code 4 none :: ws) R_6) (fun a U => a = #[(.ref r0), (.ref ar), (.int p2), (.int 0)] ∧ Z.Warmed39 U.vm ∧ U.heap = h0) (fun _ _ _ _ _ => True) (fun _ U o U' => ∃ v L, o = .returned v ∧ Q13 Z r0 ar p2 cs sv ks zs cl kk zc bs h0 n0 v U'.heap L ∧ FrameEnd U o U' L R_6.cells R_6.slots) := by
  refine MetFree.of_bodySF (plainFor_of_name own_pn3) hisR ?_
  intro p e s m args below meth c s₁ Bd hml0 hP hK
  obtain ⟨rfl, hZ, hh⟩ := hP
  have hx := Bd.exec
  have hby := Bd.bytes
  have hml : c.maxLocals = 4 := hml0
  have hown : s.vm.findClass "java/lang/String" = some m.cls := findClass_of_methodNamed Bd.named
  have hnm := (name_of_methodNamed Bd.named Bd.method).1
  have X0 : Stand p l e R_6 s m #[(.ref r0), (.ref ar), (.int p2), (.int 0)] below meth c s₁ [] 0 0 := Stand.of_body Bd
  have e0 : s₁.heap = h0 := by rw [← hh, Bd.state]; rfl
  have N0 := Fr.nil n0
  have KR : Keep h0 h0 [ar] := Keep.refl h0 _
  show Good p e below (fun o U' => ∃ v L, o = .returned v ∧ Q13 Z r0 ar p2 cs sv ks zs cl kk zc bs h0 n0 v U'.heap L ∧ FrameEnd s o U' L R_6.cells R_6.slots) _
  refine Good.back (S' := s₁.setTop (mkF m 0 #[.val (.ref r0), .val (.ref ar), .val (.int p2), .val (.int 0)] [])) (fun t k => castTop (own_ef_13 m r0 ar p2 (0 : Int32)) k) ?_
  show Good p e below _ (s₁.setTop (mkF m 0 (a_RRII r0 ar p2 0) []))
  refine Good.back (fun _ k => XS.aloadN X0.here hx rfl (hb hby k13_0.1.1.1) rfl rfl k) ?_
  obtain ⟨cq1, kq1, q1a, q1b, q1c⟩ := isOf hZ e0 Es
  obtain ⟨_, _, ⟨T1, L1, k1, n1⟩, -, X1, ⟨Lc1, hQ1, l1, y1, z1⟩, st1⟩ := X0.virtualBack hx (y := y_6) (z := y_6) hown (mvT hZ (wd hw 58 rfl)) (mvT hZ (wd hw 59 rfl)) (notFace_of_selects (args := #[]) (mvT hZ (wd hw 61 rfl))) (mvT hZ (wd hw 61 rfl)) (mvT hZ (wd hw 60 rfl)) (by decide) (backOf (W := 0) (rm9 l Z a0 hw [] r0 cs h0 n0 Z0 S_cs (hcs) Fsc) hZ (wd hw 62 rfl) (wd hw 30 rfl) (by decide) (by decide)) q1a q1c (g := (mkF m 1 (a_RRII r0 ar p2 0) [.ref r0])) rfl (by rw [hml]; rfl) (Steps.refl _) (argsL := []) (rest := []) (lenOf own_pd4 rfl) rfl (by show 2 * 0 + _ ≤ _; exact Nat.le_of_eq rfl) (hb hby k13_0.1.1.2) (fun _ _ => ⟨rfl, e0, (by decide : 0 + 0 ≤ _), (by decide : 0 + 0 ≤ _)⟩)
  dsimp only [Pt.U, Pt.locs, Pt.cells, Pt.slots] at X1 l1 y1 z1 st1 hQ1
  subst l1 y1 z1
  obtain ⟨rfl, N1q, eh1⟩ := hQ1
  have N1 := Fr.app N0 N1q
  refine Good.back (fun _ k => st1.trans k) ?_
  refine Good.back (fun _ k => XS.iloadN X1.here hx rfl (hb hby k13_0.1.2.1) rfl k) ?_
  refine Good.back (fun _ k => XS.icmpNo X1.here hx rfl (hb hby k13_0.1.2.2) rfl (teq (by decide : ((0 : Int32) = (0 : Int32)))).2 k) ?_
  refine Good.back (fun _ k => XS.aloadN X1.here hx rfl (hb hby k13_0.2.1.1) rfl rfl k) ?_
  obtain ⟨T2, X2, e2, st2⟩ := getF X1 hx hZ hown (host := "") (Or.inl (wd hw 57 rfl)) Via.refl eh1 Fsv (g := (mkF m 9 (a_RRII r0 ar p2 0) [.ref r0])) rfl rfl (hb hby k13_0.2.1.2)
  refine Good.back st2 ?_
  refine Good.back (fun _ k => XS.iconst X2.here hx rfl (hb hby k13_0.2.2.1) k) ?_
  refine Good.back (fun _ k => XS.aloadN X2.here hx rfl (hb hby k13_0.2.2.2) rfl rfl k) ?_
  refine Good.back (fun _ k => XS.iloadN X2.here hx rfl (hb hby k13_1.1.1.1) rfl k) ?_
  refine Good.back (fun _ k => XS.iloadN X2.here hx rfl (hb hby k13_1.1.1.2) rfl k) ?_
  refine Good.back (fun _ k => XS.ishl X2.here hx rfl (hb hby k13_1.1.2.1) rfl k) ?_
  show Good p e below _ (T2.setTop (mkF m 17 (a_RRII r0 ar p2 0) [.int (p2 <<< ((0 : Int32) &&& 31)), .ref ar, .int 0, .ref sv]))
  rw [show ((p2 <<< ((0 : Int32) &&& 31)) : Int32) = p2 from own_shl0 _]
  show Good p e below _ (T2.setTop (mkF m 17 (a_RRII r0 ar p2 0) [.int p2, .ref ar, .int 0, .ref sv]))
  refine Good.back (fun _ k => XS.aloadN X2.here hx rfl (hb hby k13_1.1.2.2) rfl rfl k) ?_
  obtain ⟨T3, X3, e3, st3⟩ := getF X2 hx hZ hown (host := "") (Or.inl (wd hw 57 rfl)) Via.refl e2 Fsv (g := (mkF m 18 (a_RRII r0 ar p2 0) [.ref r0, .int p2, .ref ar, .int 0, .ref sv])) rfl rfl (hb hby k13_1.2.1.1)
  refine Good.back st3 ?_
  have fc4 := Vs
  obtain ⟨cl4, Ar4, qk4, S4, N4', H4, G4⟩ := fc4
  refine Good.back (X3.arraylength hx (by rw [e3]; exact Ar4.1) (State.isArrayOf_alike hZ.alike Ar4.2.1) (g := (mkF m 21 (a_RRII r0 ar p2 0) [.ref sv, .int p2, .ref ar, .int 0, .ref sv])) rfl rfl (hb hby k13_1.2.1.2)) ?_
  rw [len_of S4 N4']
  have hn1 := own_nat (z := zc) (by omega)
  have hn2 : p2.toNatClampNeg = bs.length := by have := own_nat (z := p2) (by omega); omega
  have hn3 : zs.toNatClampNeg = cl.length := by have := own_nat (z := zs) (by omega); omega
  have e0' : (0 : Int32).toNatClampNeg = 0 := rfl
  show Good p e below _ (T3.setTop (mkF m 22 (a_RRII r0 ar p2 0) [.int zs, .int p2, .ref ar, .int 0, .ref sv]))
  have fp5 : Arv Z h0 ar kk .byte zc (own_v bs ++ List.replicate cl.length (Value.int 0)) (.int 0) := Va.pad (fun i => pad_rep (own_v bs) (.int 0) cl.length i)
  obtain ⟨T5, h5, L5, X5, e5, N5, Kq5, A5, st5⟩ := cpA X3 hx hZ hown (wd hw 88 rfl) (wd hw 91 rfl) (wd hw 89 rfl) (wd hw 90 rfl) e3 Vs fp5 (us := ((List.range cl.length).map fun i => (own_v cl).getD (0 + i) (.int 0))) (Or.inl ⟨rfl, rfl⟩) (by decide) (own_lt (by rw [show (0 : Int32).toInt = 0 from rfl]; omega)) (own_lt (by rw [show (0 : Int32).toInt = 0 from rfl]; omega)) (by omega) (by omega) (by rw [hn3]; rfl) (by rw [List.length_append, own_vlen, List.length_replicate]; omega) N1 ga (g := (mkF m 22 (a_RRII r0 ar p2 0) [.int zs, .int p2, .ref ar, .int 0, .ref sv])) rfl (by rw [hml]; rfl) rfl (hb hby k13_1.2.2.1) (by decide) (W := 0) (by show 2 * 0 + _ ≤ _; exact Nat.le_of_eq rfl) (by decide)
  refine Good.back st5 ?_
  have Z6 : n0 ≤ h5.size := Nat.le_trans Z0 Kq5.1
  have K7 : Keep h0 h5 [ar] := KR.trans Kq5 (allS (Or.inl (List.mem_of_getElem? (i := 0) rfl)) all0)
  have f_8 : Arv Z h5 ar kk .byte zc (own_v (bs ++ cl)) (.int 0) := (by have q := A5; rw [hn2, hn3, own_apnd] at q; exact q)
  refine Good.back (fun _ k => XS.goto X5.here hx rfl (pc0 := 25) (pc' := 43) rfl (hb hby k13_1.2.2.2) (by decide) (by decide) k) ?_
  show Good p e below _ (T5.setTop (mkF m 43 (a_RRII r0 ar p2 0) []))
  obtain ⟨fs9, hr9, hrun9, hended9, hW9, hsame9⟩ := X5.leave (v := none) (fun _ => rfl)
  refine Good.done (X5.returnOut hx Bd.returns (hb hby k13_2) hr9) hrun9 hended9 ⟨_, _, rfl, ?_, ⟨_, rfl⟩, hW9, hsame9.mono (by decide) (by decide)⟩
  show Q13 Z r0 ar p2 cs sv ks zs cl kk zc bs h0 n0 _ T5.heap _
  rw [e5]
  exact ⟨rfl, N5, K7, f_8⟩
theorem own_pd5 : parseMethodDescriptor "(Ljava/lang/String;)V" = some ⟨[(.object "java/lang/String")], none⟩ := by decide +kernel
theorem own_pd6 : parseMethodDescriptor "([BIB)V" = some ⟨[(.array .byte), .int, .byte], none⟩ := by decide +kernel
abbrev B11 := jdk_68_method_73_code
theorem k11_0 : ((own_A B11 0 (.aload_n 0) 1 ∧ own_A B11 1 (.aload_n 2) 1) ∧ own_A B11 2 (.invokevirtual 397) 3 ∧ own_A B11 5 (.aload_n 2) 1) ∧ (own_A B11 6 (.aload_n 0) 1 ∧ own_A B11 7 (.getfield 15) 3) ∧ own_A B11 10 (.iload_n 1) 1 ∧ own_A B11 11 (.aload_n 0) 1 := by decide +kernel
theorem k11_1 : (own_A B11 12 (.getfield 22) 3 ∧ own_A B11 15 (.invokevirtual 399) 3) ∧ own_A B11 18 .return_ 1 := by decide +kernel
theorem own_ef_11 (m : MethodId) (x0 : Addr) (x1 : Int32) (x2 : Addr) : entryFrame m #[(.ref x0), (.int x1), (.ref x2)] 3 = mkF m 0 #[.val (.ref x0), .val (.int x1), .val (.ref x2)] [] := by first | (simp [entryFrame, mkF, argsToLocals, Value.category]; done) | rfl
def Q11 (Z : State) (r0 : Addr) (p1 : Int32) (r2 : Addr) (cs : Int32) (sv : Addr) (ks : ClassId) (zs : Int32) (cl : List Int32) (ar : Addr) (kk : ClassId) (zc : Int32) (bs : List Int32) (h0 : Heap) (n0 : Nat) (v : Option Value) (h : Heap) (L : List Loc) : Prop := v = none ∧ Fr n0 L ∧ Keep h0 h [ar] ∧ Arv Z h ar kk .byte zc (own_v (bs ++ cl)) (.int 0)
set_option maxRecDepth 65536 in
set_option maxHeartbeats 40000000 in
theorem rm11 (l : Launch) (Z : State) (a0 : Array Value) (hw : ∀ d ∈ tables_1, d.before a0 Z = true) (ws : List Jvm.Cond) (r0 : Addr) (p1 : Int32) (r2 : Addr) (cs : Int32) (sv : Addr) (ks : ClassId) (zs : Int32) (cl : List Int32) (ar : Addr) (kk : ClassId) (zc : Int32) (bs : List Int32) (h0 : Heap) (n0 : Nat) (Z0 : n0 ≤ h0.size) (S_cs : Sta Z h0 "java/lang/String" "COMPACT_STRINGS" "Z" (.int cs)) (hcs : ¬ (cs = (0 : Int32))) (E0 : Exa Z h0 r0 "java/lang/StringBuilder") (Fk : Fld Z h0 r0 "java/lang/AbstractStringBuilder" "coder" "B" (.int 0)) (Fv : Fld Z h0 r0 "java/lang/AbstractStringBuilder" "value" "[B" (.ref ar)) (Va : Arv Z h0 ar kk .byte zc (own_v bs) (.int 0)) (ga : n0 ≤ ar) (Es : Exa Z h0 r2 "java/lang/String") (Fsv : Fld Z h0 r2 "java/lang/String" "value" "[B" (.ref sv)) (Fsc : Fld Z h0 r2 "java/lang/String" "coder" "B" (.int 0)) (Vs : Arv Z h0 sv ks .byte zs (own_v cl) (.int 0)) (hzs : zs.toInt = (cl.length : Int)) (hp : p1.toInt = (bs.length : Int)) (hft : ((bs.length + cl.length : Nat) : Int) ≤ zc.toInt) :
    MetFree l y_10 (head1 (Jvm.Cond.code y_10 jdk_68_method_73_code 3 none :: ws) R_7) (fun a U => a = #[(.ref r0), (.int p1), (.ref r2)] ∧ Z.Warmed39 U.vm ∧ U.heap = h0) (fun _ _ _ _ _ => True) (fun _ U o U' => ∃ v L, o = .returned v ∧ Q11 Z r0 p1 r2 cs sv ks zs cl ar kk zc bs h0 n0 v U'.heap L ∧ FrameEnd U o U' L R_7.cells R_7.slots) := by
  refine MetFree.of_bodySF (plainFor_of_name own_pn1) hisR ?_
  intro p e s m args below meth c s₁ Bd hml0 hP hK
  obtain ⟨rfl, hZ, hh⟩ := hP
  have hx := Bd.exec
  have hby := Bd.bytes
  have hml : c.maxLocals = 3 := hml0
  have hown : s.vm.findClass "java/lang/AbstractStringBuilder" = some m.cls := findClass_of_methodNamed Bd.named
  have hnm := (name_of_methodNamed Bd.named Bd.method).1
  have X0 : Stand p l e R_7 s m #[(.ref r0), (.int p1), (.ref r2)] below meth c s₁ [] 0 0 := Stand.of_body Bd
  have e0 : s₁.heap = h0 := by rw [← hh, Bd.state]; rfl
  have N0 := Fr.nil n0
  have KR : Keep h0 h0 [ar] := Keep.refl h0 _
  show Good p e below (fun o U' => ∃ v L, o = .returned v ∧ Q11 Z r0 p1 r2 cs sv ks zs cl ar kk zc bs h0 n0 v U'.heap L ∧ FrameEnd s o U' L R_7.cells R_7.slots) _
  refine Good.back (S' := s₁.setTop (mkF m 0 #[.val (.ref r0), .val (.int p1), .val (.ref r2)] [])) (fun t k => castTop (own_ef_11 m r0 p1 r2) k) ?_
  show Good p e below _ (s₁.setTop (mkF m 0 (a_RIR r0 p1 r2) []))
  refine Good.back (fun _ k => XS.aloadN X0.here hx rfl (hb hby k11_0.1.1.1) rfl rfl k) ?_
  refine Good.back (fun _ k => XS.aloadN X0.here hx rfl (hb hby k11_0.1.1.2) rfl rfl k) ?_
  obtain ⟨cq1, qk1, qk1'⟩ := E0.cell
  obtain ⟨_, _, ⟨T1, L1, k1, n1⟩, -, X1, ⟨Lc1, hQ1, l1, y1, z1⟩, st1⟩ := X0.privateBack hx (y := y_8) hown (mvT hZ (wd hw 77 rfl)) (mvT hZ (wd hw 78 rfl)) (own_selPriv (mvT hZ (wd hw 80 rfl)) (mvT hZ (wd hw 78 rfl)) (Cond.privateMethod_at (mvP hZ (wd hw 79 rfl) (args := #[]))) (by decide)) (Cond.privateMethod_at (mvP hZ (wd hw 79 rfl) (args := #[]))) (mvT hZ (wd hw 81 rfl)) (by decide) (backOf (W := 0) (rm12 l Z a0 hw [] r0 r2 cs h0 n0 Z0 S_cs (hcs) E0 Fk Es Fsc) hZ (wd hw 81 rfl) (wd hw 26 rfl) (by decide) (by decide)) (g := (mkF m 2 (a_RIR r0 p1 r2) [.ref r2, .ref r0])) rfl (by rw [hml]; rfl) (Steps.refl _) (a := r0) (by rw [e0]; exact qk1) qk1' (argsL := [(.ref r2)]) (rest := []) (lenOf own_pd5 rfl) rfl (by show 2 * 0 + _ ≤ _; exact Nat.le_of_eq rfl) (hb hby k11_0.1.2.1) (fun _ _ => ⟨rfl, e0, (by decide : 0 + 0 ≤ _), (by decide : 0 + 0 ≤ _)⟩)
  dsimp only [Pt.U, Pt.locs, Pt.cells, Pt.slots] at X1 l1 y1 z1 st1 hQ1
  subst l1 y1 z1
  obtain ⟨rfl, N1q, eh1⟩ := hQ1
  have N1 := Fr.app N0 N1q
  refine Good.back (fun _ k => st1.trans k) ?_
  refine Good.back (fun _ k => XS.aloadN X1.here hx rfl (hb hby k11_0.1.2.2) rfl rfl k) ?_
  refine Good.back (fun _ k => XS.aloadN X1.here hx rfl (hb hby k11_0.2.1.1) rfl rfl k) ?_
  obtain ⟨T2, X2, e2, st2⟩ := getF X1 hx hZ hown (host := "") (Or.inl (wd hw 32 rfl)) Via.refl eh1 Fv (g := (mkF m 7 (a_RIR r0 p1 r2) [.ref r0, .ref r2])) rfl rfl (hb hby k11_0.2.1.2)
  refine Good.back st2 ?_
  refine Good.back (fun _ k => XS.iloadN X2.here hx rfl (hb hby k11_0.2.2.1) rfl k) ?_
  refine Good.back (fun _ k => XS.aloadN X2.here hx rfl (hb hby k11_0.2.2.2) rfl rfl k) ?_
  obtain ⟨T3, X3, e3, st3⟩ := getF X2 hx hZ hown (host := "") (Or.inl (wd hw 34 rfl)) Via.refl e2 Fk (g := (mkF m 12 (a_RIR r0 p1 r2) [.ref r0, .int p1, .ref ar, .ref r2])) rfl rfl (hb hby k11_1.1.1)
  refine Good.back st3 ?_
  obtain ⟨cq4, kq4, q4a, q4b, q4c⟩ := isOf hZ e3 Es
  obtain ⟨_, _, ⟨T4, L4, k4, n4⟩, -, X4, ⟨Lc4, hQ4, l4, y4, z4⟩, st4⟩ := X3.virtualBack hx (y := y_9) (z := y_9) hown (mvT hZ (wd hw 83 rfl)) (mvT hZ (wd hw 84 rfl)) (notFace_of_selects (args := #[]) (mvT hZ (wd hw 86 rfl))) (mvT hZ (wd hw 86 rfl)) (mvT hZ (wd hw 85 rfl)) (by decide) (backOf (W := 0) (rm13 l Z a0 hw [] r2 ar p1 cs sv ks zs cl kk zc bs h0 n0 Z0 S_cs (hcs) Es Fsv Fsc Vs (by first | assumption | decide) Va ga (hp) (by first | assumption | decide)) hZ (wd hw 87 rfl) (wd hw 30 rfl) (by decide) (by decide)) q4a q4c (g := (mkF m 15 (a_RIR r0 p1 r2) [.int 0, .int p1, .ref ar, .ref r2])) rfl (by rw [hml]; rfl) (Steps.refl _) (argsL := [(.ref ar), (.int p1), (.int 0)]) (rest := []) (lenOf own_pd6 rfl) rfl (by show 2 * 0 + _ ≤ _; exact Nat.le_of_eq rfl) (hb hby k11_1.1.2) (fun _ _ => ⟨rfl, e3, (by decide : 0 + 0 ≤ _), (by decide : 0 + 0 ≤ _)⟩)
  dsimp only [Pt.U, Pt.locs, Pt.cells, Pt.slots] at X4 l4 y4 z4 st4 hQ4
  subst l4 y4 z4
  obtain ⟨rfl, N4q, Kq4, o4_0⟩ := hQ4
  have N4 := Fr.app N1 N4q
  have Z5 : n0 ≤ T4.heap.size := Nat.le_trans Z0 Kq4.1
  have K6 : Keep h0 T4.heap [ar] := KR.trans Kq4 (allS (Or.inl (List.mem_of_getElem? (i := 0) rfl)) all0)
  refine Good.back (fun _ k => st4.trans k) ?_
  show Good p e below _ (T4.setTop (mkF m 18 (a_RIR r0 p1 r2) []))
  obtain ⟨fs7, hr7, hrun7, hended7, hW7, hsame7⟩ := X4.leave (v := none) (fun _ => rfl)
  refine Good.done (X4.returnOut hx Bd.returns (hb hby k11_1.2) hr7) hrun7 hended7 ⟨_, _, rfl, ?_, ⟨_, rfl⟩, hW7, hsame7.mono (by decide) (by decide)⟩
  show Q11 Z r0 p1 r2 cs sv ks zs cl ar kk zc bs h0 n0 _ T4.heap _
  exact ⟨rfl, N4, K6, o4_0⟩
theorem own_pd7 : parseMethodDescriptor "()I" = some ⟨[], some .int⟩ := by decide +kernel
theorem own_pd8 : parseMethodDescriptor "(I)V" = some ⟨[.int], none⟩ := by decide +kernel
theorem own_pd9 : parseMethodDescriptor "(ILjava/lang/String;)V" = some ⟨[.int, (.object "java/lang/String")], none⟩ := by decide +kernel
abbrev B7 := jdk_68_method_22_code
theorem k7_0 : ((own_A B7 0 (.aload_n 1) 1 ∧ own_A B7 1 (.ifnonnull 8) 3) ∧ own_A B7 9 (.aload_n 1) 1 ∧ own_A B7 10 (.invokevirtual 32) 3) ∧ (own_A B7 13 (.istore_n 2) 1 ∧ own_A B7 14 (.aload_n 0) 1) ∧ own_A B7 15 (.aload_n 0) 1 ∧ own_A B7 16 (.getfield 79) 3 := by decide +kernel
theorem k7_1 : ((own_A B7 19 (.iload_n 2) 1 ∧ own_A B7 20 .iadd 1) ∧ own_A B7 21 (.invokevirtual 100) 3 ∧ own_A B7 24 (.aload_n 0) 1) ∧ (own_A B7 25 (.aload_n 0) 1 ∧ own_A B7 26 (.getfield 79) 3) ∧ own_A B7 29 (.aload_n 1) 1 ∧ own_A B7 30 (.invokevirtual 208) 3 := by decide +kernel
theorem k7_2 : ((own_A B7 33 (.aload_n 0) 1 ∧ own_A B7 34 .dup 1) ∧ own_A B7 35 (.getfield 79) 3 ∧ own_A B7 38 (.iload_n 2) 1) ∧ (own_A B7 39 .iadd 1 ∧ own_A B7 40 (.putfield 79) 3) ∧ own_A B7 43 (.aload_n 0) 1 ∧ own_A B7 44 .areturn 1 := by decide +kernel
theorem own_ef_7 (m : MethodId) (x0 : Addr) (x1 : Addr) : entryFrame m #[(.ref x0), (.ref x1)] 3 = mkF m 0 #[.val (.ref x0), .val (.ref x1), .unset] [] := by first | (simp [entryFrame, mkF, argsToLocals, Value.category]; done) | rfl
def Q7 (Z : State) (r0 : Addr) (r1 : Addr) (cs : Int32) (sv : Addr) (ks : ClassId) (zs : Int32) (cl : List Int32) (ar : Addr) (kk : ClassId) (zc : Int32) (ct : Int32) (bs : List Int32) (h0 : Heap) (n0 : Nat) (v : Option Value) (h : Heap) (L : List Loc) : Prop := ∃ (a2 : Addr) (k2 : ClassId) (z2 : Int32) (c2 : Int32), v = some (.ref r0) ∧ Fr n0 L ∧ Keep h0 h [r0, ar] ∧ (a2 = ar ∨ h0.size ≤ a2) ∧ Fld Z h r0 "java/lang/AbstractStringBuilder" "coder" "B" (.int 0) ∧ Fld Z h r0 "java/lang/AbstractStringBuilder" "count" "I" (.int c2) ∧ Fld Z h r0 "java/lang/AbstractStringBuilder" "value" "[B" (.ref a2) ∧ Exa Z h a2 "[B" ∧ Arv Z h a2 k2 .byte z2 (own_v (bs ++ cl)) (.int 0) ∧ (c2.toInt = ((bs ++ cl).length : Int)) ∧ (((bs ++ cl).length : Int) ≤ z2.toInt ∧ z2.toInt ≤ 200)
set_option maxRecDepth 65536 in
set_option maxHeartbeats 40000000 in
theorem rm7 (l : Launch) (Z : State) (a0 : Array Value) (hw : ∀ d ∈ tables_1, d.before a0 Z = true) (ws : List Jvm.Cond) (r0 : Addr) (r1 : Addr) (cs : Int32) (sv : Addr) (ks : ClassId) (zs : Int32) (cl : List Int32) (ar : Addr) (kk : ClassId) (zc : Int32) (ct : Int32) (bs : List Int32) (h0 : Heap) (n0 : Nat) (Z0 : n0 ≤ h0.size) (S_cs : Sta Z h0 "java/lang/String" "COMPACT_STRINGS" "Z" (.int cs)) (hcs : ¬ (cs = (0 : Int32))) (E0 : Exa Z h0 r0 "java/lang/StringBuilder") (g0 : n0 ≤ r0) (Fk : Fld Z h0 r0 "java/lang/AbstractStringBuilder" "coder" "B" (.int 0)) (Fc : Fld Z h0 r0 "java/lang/AbstractStringBuilder" "count" "I" (.int ct)) (Fv : Fld Z h0 r0 "java/lang/AbstractStringBuilder" "value" "[B" (.ref ar)) (Ea : Exa Z h0 ar "[B") (Va : Arv Z h0 ar kk .byte zc (own_v bs) (.int 0)) (ga : n0 ≤ ar) (hc : ct.toInt = (bs.length : Int)) (hz : (bs.length : Int) ≤ zc.toInt ∧ zc.toInt ≤ 200) (Es : Exa Z h0 r1 "java/lang/String") (Fsv : Fld Z h0 r1 "java/lang/String" "value" "[B" (.ref sv)) (Fsc : Fld Z h0 r1 "java/lang/String" "coder" "B" (.int 0)) (Vs : Arv Z h0 sv ks .byte zs (own_v cl) (.int 0)) (hzs : zs.toInt = (cl.length : Int)) (hap : bs.length + cl.length ≤ 100) :
    MetFree l y_11 (head1 (Jvm.Cond.code y_11 jdk_68_method_22_code 3 (some (.object "java/lang/AbstractStringBuilder")) :: ws) R_8) (fun a U => a = #[(.ref r0), (.ref r1)] ∧ Z.Warmed39 U.vm ∧ U.heap = h0) (fun _ _ _ _ _ => True) (fun _ U o U' => ∃ v L, o = .returned v ∧ Q7 Z r0 r1 cs sv ks zs cl ar kk zc ct bs h0 n0 v U'.heap L ∧ FrameEnd U o U' L R_8.cells R_8.slots) := by
  refine MetFree.of_bodySF (plainFor_of_name own_pn1) hisR ?_
  intro p e s m args below meth c s₁ Bd hml0 hP hK
  obtain ⟨rfl, hZ, hh⟩ := hP
  have hx := Bd.exec
  have hby := Bd.bytes
  have hml : c.maxLocals = 3 := hml0
  have hown : s.vm.findClass "java/lang/AbstractStringBuilder" = some m.cls := findClass_of_methodNamed Bd.named
  have hnm := (name_of_methodNamed Bd.named Bd.method).1
  have X0 : Stand p l e R_8 s m #[(.ref r0), (.ref r1)] below meth c s₁ [] 0 0 := Stand.of_body Bd
  have e0 : s₁.heap = h0 := by rw [← hh, Bd.state]; rfl
  have N0 := Fr.nil n0
  have KR : Keep h0 h0 [r0, ar] := Keep.refl h0 _
  show Good p e below (fun o U' => ∃ v L, o = .returned v ∧ Q7 Z r0 r1 cs sv ks zs cl ar kk zc ct bs h0 n0 v U'.heap L ∧ FrameEnd s o U' L R_8.cells R_8.slots) _
  refine Good.back (S' := s₁.setTop (mkF m 0 #[.val (.ref r0), .val (.ref r1), .unset] [])) (fun t k => castTop (own_ef_7 m r0 r1) k) ?_
  show Good p e below _ (s₁.setTop (mkF m 0 (a_RRu r0 r1) []))
  refine Good.back (fun _ k => XS.aloadN X0.here hx rfl (hb hby k7_0.1.1.1) rfl rfl k) ?_
  refine Good.back (fun _ k => XS.ifnonnullYes X0.here hx rfl (pc0 := 1) (pc' := 9) rfl (hb hby k7_0.1.1.2) rfl (by decide) (by decide) k) ?_
  have hsum := own_sum hc hzs (by omega)
  show Good p e below _ (s₁.setTop (mkF m 9 (a_RRu r0 r1) []))
  refine Good.back (fun _ k => XS.aloadN X0.here hx rfl (hb hby k7_0.1.2.1) rfl rfl k) ?_
  obtain ⟨cq1, kq1, q1a, q1b, q1c⟩ := isOf hZ e0 Es
  obtain ⟨_, _, ⟨T1, L1, k1, n1⟩, -, X1, ⟨Lc1, hQ1, l1, y1, z1⟩, st1⟩ := X0.virtualBack hx (y := y_7) (z := y_7) hown (mvT hZ (wd hw 52 rfl)) (mvT hZ (wd hw 53 rfl)) (notFace_of_selects (args := #[]) (mvT hZ (wd hw 55 rfl))) (mvT hZ (wd hw 55 rfl)) (mvT hZ (wd hw 54 rfl)) (by decide) (backOf (W := 0) (rm8 l Z a0 hw [] r1 cs sv ks zs cl h0 n0 Z0 S_cs (hcs) Es Fsv Fsc Vs (by first | assumption | decide)) hZ (wd hw 56 rfl) (wd hw 30 rfl) (by decide) (by decide)) q1a q1c (g := (mkF m 10 (a_RRu r0 r1) [.ref r1])) rfl (by rw [hml]; rfl) (Steps.refl _) (argsL := []) (rest := []) (lenOf own_pd7 rfl) rfl (by show 2 * 0 + _ ≤ _; exact Nat.le_of_eq rfl) (hb hby k7_0.1.2.2) (fun _ _ => ⟨rfl, e0, (by decide : 0 + 0 ≤ _), (by decide : 0 + 0 ≤ _)⟩)
  dsimp only [Pt.U, Pt.locs, Pt.cells, Pt.slots] at X1 l1 y1 z1 st1 hQ1
  subst l1 y1 z1
  obtain ⟨rfl, N1q, eh1⟩ := hQ1
  have N1 := Fr.app N0 N1q
  refine Good.back (fun _ k => st1.trans k) ?_
  refine Good.back (fun _ k => XS.istoreN X1.here hx rfl (hb hby k7_0.2.1.1) rfl (l' := (a_RRI r0 r1 zs)) rfl k) ?_
  refine Good.back (fun _ k => XS.aloadN X1.here hx rfl (hb hby k7_0.2.1.2) rfl rfl k) ?_
  refine Good.back (fun _ k => XS.aloadN X1.here hx rfl (hb hby k7_0.2.2.1) rfl rfl k) ?_
  obtain ⟨T2, X2, e2, st2⟩ := getF X1 hx hZ hown (host := "") (Or.inl (wd hw 65 rfl)) Via.refl eh1 Fc (g := (mkF m 16 (a_RRI r0 r1 zs) [.ref r0, .ref r0])) rfl rfl (hb hby k7_0.2.2.2)
  refine Good.back st2 ?_
  refine Good.back (fun _ k => XS.iloadN X2.here hx rfl (hb hby k7_1.1.1.1) rfl k) ?_
  refine Good.back (fun _ k => XS.iadd X2.here hx rfl (hb hby k7_1.1.1.2) rfl k) ?_
  obtain ⟨cq3, qk3, qk3'⟩ := E0.cell
  obtain ⟨_, _, ⟨T3, L3, k3, n3⟩, -, X3, ⟨Lc3, hQ3, l3, y3, z3⟩, st3⟩ := X2.privateBack hx (y := y_5) hown (mvT hZ (wd hw 67 rfl)) (mvT hZ (wd hw 68 rfl)) (own_selPriv (mvT hZ (wd hw 70 rfl)) (mvT hZ (wd hw 68 rfl)) (Cond.privateMethod_at (mvP hZ (wd hw 69 rfl) (args := #[]))) (by decide)) (Cond.privateMethod_at (mvP hZ (wd hw 69 rfl) (args := #[]))) (mvT hZ (wd hw 71 rfl)) (by decide) (backOf (W := 0) (rm10 l Z a0 hw [] r0 (ct + zs) ar kk zc ct bs h0 n0 Z0 E0 g0 Fk Fc Fv Ea Va ga (by first | assumption | decide) (by first | assumption | decide) (by omega)) hZ (wd hw 71 rfl) (wd hw 26 rfl) (by decide) (by decide)) (g := (mkF m 21 (a_RRI r0 r1 zs) [.int (ct + zs), .ref r0])) rfl (by rw [hml]; rfl) (Steps.refl _) (a := r0) (by rw [e2]; exact qk3) qk3' (argsL := [(.int (ct + zs))]) (rest := []) (lenOf own_pd8 rfl) rfl (by show 2 * 0 + _ ≤ _; exact Nat.le_of_eq rfl) (hb hby k7_1.1.2.1) (fun _ _ => ⟨rfl, e2, (by decide : 0 + 1 ≤ _), (by decide : 0 + 200 ≤ _)⟩)
  dsimp only [Pt.U, Pt.locs, Pt.cells, Pt.slots] at X3 l3 y3 z3 st3 hQ3
  subst l3 y3 z3
  obtain ⟨a2_3, k2_3, z2_3, rfl, N3q, Kq3, o3_0, o3_1, o3_2, o3_3, o3_4, o3_5, o3_6, o3_7⟩ := hQ3
  have N3 := Fr.app N1 N3q
  have Z4 : n0 ≤ T3.heap.size := Nat.le_trans Z0 Kq3.1
  have K5 : Keep h0 T3.heap [r0, ar] := KR.trans Kq3 (allS (Or.inl (List.mem_of_getElem? (i := 0) rfl)) all0)
  have g_a2_3 : n0 ≤ a2_3 := own_rel o3_0 ga Z0
  have kp_a2_3 : a2_3 ∈ [r0, ar] ∨ h0.size ≤ a2_3 := own_kp o3_0 (Or.inl (List.mem_of_getElem? (i := 1) rfl)) KR.1
  refine Good.back (fun _ k => st3.trans k) ?_
  refine Good.back (fun _ k => XS.aloadN X3.here hx rfl (hb hby k7_1.1.2.2) rfl rfl k) ?_
  refine Good.back (fun _ k => XS.aloadN X3.here hx rfl (hb hby k7_1.2.1.1) rfl rfl k) ?_
  obtain ⟨T6, X6, e6, st6⟩ := getF X3 hx hZ hown (host := "") (Or.inl (wd hw 65 rfl)) Via.refl rfl o3_2 (g := (mkF m 26 (a_RRI r0 r1 zs) [.ref r0, .ref r0])) rfl rfl (hb hby k7_1.2.1.2)
  refine Good.back st6 ?_
  refine Good.back (fun _ k => XS.aloadN X6.here hx rfl (hb hby k7_1.2.2.1) rfl rfl k) ?_
  have f_8 := own_staKeep S_cs Kq3 (allS (own_plainE E0) all0)
  have f_9 := Exa.keep E0 Kq3
  have f_10 := Exa.keep Es Kq3
  have ne_r1_r0_12 : r1 ≠ r0 := Exa.ne f_10 f_9 (by decide)
  have f_11 := Fld.keep Fsv Kq3 (ninS ne_r1_r0_12 nin0)
  have f_13 := Fld.keep Fsc Kq3 (ninS ne_r1_r0_12 nin0)
  have ne_r0_sv_15 : r0 ≠ sv := Exa.neArv E0 Vs (wd hw 17 rfl)
  have f_14 := Arv.keep Vs Kq3 (ninS (Ne.symm ne_r0_sv_15) nin0)
  obtain ⟨cq7, qk7, qk7'⟩ := f_9.cell
  obtain ⟨_, _, ⟨T7, L7, k7, n7⟩, -, X7, ⟨Lc7, hQ7, l7, y7, z7⟩, st7⟩ := X6.privateBack hx (y := y_10) hown (mvT hZ (wd hw 72 rfl)) (mvT hZ (wd hw 73 rfl)) (own_selPriv (mvT hZ (wd hw 75 rfl)) (mvT hZ (wd hw 73 rfl)) (Cond.privateMethod_at (mvP hZ (wd hw 74 rfl) (args := #[]))) (by decide)) (Cond.privateMethod_at (mvP hZ (wd hw 74 rfl) (args := #[]))) (mvT hZ (wd hw 76 rfl)) (by decide) (backOf (W := 0) (rm11 l Z a0 hw [] r0 ct r1 cs sv ks zs cl a2_3 k2_3 z2_3 bs T3.heap n0 Z4 f_8 (hcs) f_9 o3_1 o3_3 o3_5 g_a2_3 f_10 f_11 f_13 f_14 (by first | assumption | decide) (hc) (by omega)) hZ (wd hw 76 rfl) (wd hw 26 rfl) (by decide) (by decide)) (g := (mkF m 30 (a_RRI r0 r1 zs) [.ref r1, .int ct, .ref r0])) rfl (by rw [hml]; rfl) (Steps.refl _) (a := r0) (by rw [e6]; exact qk7) qk7' (argsL := [(.int ct), (.ref r1)]) (rest := []) (lenOf own_pd9 rfl) rfl (by show 2 * 0 + _ ≤ _; exact Nat.le_of_eq rfl) (hb hby k7_1.2.2.2) (fun _ _ => ⟨rfl, e6, (by decide : 1 + 0 ≤ _), (by decide : 200 + 0 ≤ _)⟩)
  dsimp only [Pt.U, Pt.locs, Pt.cells, Pt.slots] at X7 l7 y7 z7 st7 hQ7
  subst l7 y7 z7
  obtain ⟨rfl, N7q, Kq7, o7_0⟩ := hQ7
  have N7 := Fr.app N3 N7q
  have Z16 : n0 ≤ T7.heap.size := Nat.le_trans Z4 Kq7.1
  have K17 : Keep h0 T7.heap [r0, ar] := K5.trans Kq7 (allS (kp_a2_3) all0)
  refine Good.back (fun _ k => st7.trans k) ?_
  refine Good.back (fun _ k => XS.aloadN X7.here hx rfl (hb hby k7_2.1.1.1) rfl rfl k) ?_
  refine Good.back (fun _ k => XS.dup X7.here hx rfl (hb hby k7_2.1.1.2) rfl rfl k) ?_
  have f_19 := Exa.keep f_9 Kq7
  have ne_r0_a2_3_20 : r0 ≠ a2_3 := Exa.neArv f_19 o7_0 (wd hw 17 rfl)
  have f_18 := Fld.keep o3_2 Kq7 (ninS ne_r0_a2_3_20 nin0)
  obtain ⟨T21, X21, e21, st21⟩ := getF X7 hx hZ hown (host := "") (Or.inl (wd hw 65 rfl)) Via.refl rfl f_18 (g := (mkF m 35 (a_RRI r0 r1 zs) [.ref r0, .ref r0])) rfl rfl (hb hby k7_2.1.2.1)
  refine Good.back st21 ?_
  refine Good.back (fun _ k => XS.iloadN X21.here hx rfl (hb hby k7_2.1.2.2) rfl k) ?_
  refine Good.back (fun _ k => XS.iadd X21.here hx rfl (hb hby k7_2.2.1.1) rfl k) ?_
  have f_22 := Exa.keep f_9 Kq7
  obtain ⟨T23, h23, X23, e23, W23, st23⟩ := putF X21 hx hZ hown (host := "") (Or.inl (wd hw 65 rfl)) Via.refl e21 f_18 f_22 (Or.inl (wd hw 66 rfl)) (wd hw 17 rfl) (ty := .int) (by decide) rfl rfl (g := (mkF m 40 (a_RRI r0 r1 zs) [.int (ct + zs), .ref r0])) rfl rfl (hb hby k7_2.2.1.2)
  refine Good.back st23 ?_
  have f_24 : Fld Z h23 r0 "java/lang/AbstractStringBuilder" "count" "I" (.int (ct + zs)) := Fld.same W23 f_18
  have N23 := Fr.snoc X23 N7 g0
  have Z25 : n0 ≤ h23.size := Nat.le_trans Z16 (Keep.of_wr W23).1
  have K26 : Keep h0 h23 [r0, ar] := K17.wr W23 (Or.inl (List.mem_of_getElem? (i := 0) rfl))
  refine Good.back (fun _ k => XS.aloadN X23.here hx rfl (hb hby k7_2.2.2.1) rfl rfl k) ?_
  show Good p e below _ (T23.setTop (mkF m 44 (a_RRI r0 r1 zs) [.ref r0]))
  obtain ⟨fs27, hr27, hrun27, hended27, hW27, hsame27⟩ := X23.leave (v := some (.ref r0)) (fun h => by rw [Bd.returns] at h; cases h)
  refine Good.done (retOut X23 hx Bd.returns rfl (Or.inr (Or.inr (Or.inr (Or.inr ⟨rfl, rfl, rfl⟩)))) (hb hby k7_2.2.2.2) hr27) hrun27 hended27 ⟨_, _, rfl, ?_, ⟨_, rfl⟩, hW27, hsame27.mono (by decide) (by decide)⟩
  show Q7 Z r0 r1 cs sv ks zs cl ar kk zc ct bs h0 n0 _ T23.heap _
  rw [e23]
  have f_28 := Fld.keep o3_1 Kq7 (ninS ne_r0_a2_3_20 nin0)
  have f_29 : Fld Z h23 r0 "java/lang/AbstractStringBuilder" "coder" "B" (.int 0) := Fld.other W23 f_28 (Or.inr (slot_ne (Or.inl (wd hw 35 rfl)) (Or.inl (wd hw 66 rfl)) (by decide) (t := .byte) (t' := .int) (by decide) (by decide)))
  have f_30 := Fld.keep o3_3 Kq7 (ninS ne_r0_a2_3_20 nin0)
  have f_31 : Fld Z h23 r0 "java/lang/AbstractStringBuilder" "value" "[B" (.ref a2_3) := Fld.other W23 f_30 (Or.inr (slot_ne (Or.inl (wd hw 33 rfl)) (Or.inl (wd hw 66 rfl)) (by decide) (t := (.array .byte)) (t' := .int) (by decide) (by decide)))
  have f_32 := Exa.keep o3_4 Kq7
  have f_33 : Exa Z h23 a2_3 "[B" := Exa.wr W23 f_32
  have f_34 : Arv Z h23 a2_3 k2_3 .byte z2_3 (own_v (bs ++ cl)) (.int 0) := Arv.other o7_0 W23 (Ne.symm ne_r0_a2_3_20)
  exact ⟨a2_3, k2_3, z2_3, (ct + zs), rfl, N23, K26, (o3_0), f_29, f_24, f_31, f_33, f_34, (by rw [List.length_append]; exact hsum), (by rw [List.length_append]; omega)⟩
theorem own_pd10 : parseMethodDescriptor "(Ljava/lang/String;)Ljava/lang/AbstractStringBuilder;" = some ⟨[(.object "java/lang/String")], some (.object "java/lang/AbstractStringBuilder")⟩ := by decide +kernel
theorem own_pn4 : plainName "java/lang/StringBuilder" = true := by first | (simp [plainName, overriddenIn]; done) | decide +kernel
abbrev B6 := jdk_67_method_7_code
theorem k6_0 : ((own_A B6 0 (.aload_n 0) 1 ∧ own_A B6 1 (.aload_n 1) 1) ∧ own_A B6 2 (.invokespecial 29) 3) ∧ (own_A B6 5 .pop 1 ∧ own_A B6 6 (.aload_n 0) 1) ∧ own_A B6 7 .areturn 1 := by decide +kernel
theorem own_ef_6 (m : MethodId) (x0 : Addr) (x1 : Addr) : entryFrame m #[(.ref x0), (.ref x1)] 2 = mkF m 0 #[.val (.ref x0), .val (.ref x1)] [] := by first | (simp [entryFrame, mkF, argsToLocals, Value.category]; done) | rfl
def Q6 (Z : State) (r0 : Addr) (r1 : Addr) (cs : Int32) (sv : Addr) (ks : ClassId) (zs : Int32) (cl : List Int32) (ar : Addr) (kk : ClassId) (zc : Int32) (ct : Int32) (bs : List Int32) (h0 : Heap) (n0 : Nat) (v : Option Value) (h : Heap) (L : List Loc) : Prop := ∃ (a2 : Addr) (k2 : ClassId) (z2 : Int32) (c2 : Int32), v = some (.ref r0) ∧ Fr n0 L ∧ Keep h0 h [r0, ar] ∧ (a2 = ar ∨ h0.size ≤ a2) ∧ Fld Z h r0 "java/lang/AbstractStringBuilder" "coder" "B" (.int 0) ∧ Fld Z h r0 "java/lang/AbstractStringBuilder" "count" "I" (.int c2) ∧ Fld Z h r0 "java/lang/AbstractStringBuilder" "value" "[B" (.ref a2) ∧ Exa Z h a2 "[B" ∧ Arv Z h a2 k2 .byte z2 (own_v (bs ++ cl)) (.int 0) ∧ (c2.toInt = ((bs ++ cl).length : Int)) ∧ (((bs ++ cl).length : Int) ≤ z2.toInt ∧ z2.toInt ≤ 200)
set_option maxRecDepth 65536 in
set_option maxHeartbeats 40000000 in
theorem rm6 (l : Launch) (Z : State) (a0 : Array Value) (hw : ∀ d ∈ tables_1, d.before a0 Z = true) (ws : List Jvm.Cond) (r0 : Addr) (r1 : Addr) (cs : Int32) (sv : Addr) (ks : ClassId) (zs : Int32) (cl : List Int32) (ar : Addr) (kk : ClassId) (zc : Int32) (ct : Int32) (bs : List Int32) (h0 : Heap) (n0 : Nat) (Z0 : n0 ≤ h0.size) (S_cs : Sta Z h0 "java/lang/String" "COMPACT_STRINGS" "Z" (.int cs)) (hcs : ¬ (cs = (0 : Int32))) (E0 : Exa Z h0 r0 "java/lang/StringBuilder") (g0 : n0 ≤ r0) (Fk : Fld Z h0 r0 "java/lang/AbstractStringBuilder" "coder" "B" (.int 0)) (Fc : Fld Z h0 r0 "java/lang/AbstractStringBuilder" "count" "I" (.int ct)) (Fv : Fld Z h0 r0 "java/lang/AbstractStringBuilder" "value" "[B" (.ref ar)) (Ea : Exa Z h0 ar "[B") (Va : Arv Z h0 ar kk .byte zc (own_v bs) (.int 0)) (ga : n0 ≤ ar) (hc : ct.toInt = (bs.length : Int)) (hz : (bs.length : Int) ≤ zc.toInt ∧ zc.toInt ≤ 200) (Es : Exa Z h0 r1 "java/lang/String") (Fsv : Fld Z h0 r1 "java/lang/String" "value" "[B" (.ref sv)) (Fsc : Fld Z h0 r1 "java/lang/String" "coder" "B" (.int 0)) (Vs : Arv Z h0 sv ks .byte zs (own_v cl) (.int 0)) (hzs : zs.toInt = (cl.length : Int)) (hap : bs.length + cl.length ≤ 100) :
    MetFree l y_12 (head1 (Jvm.Cond.code y_12 jdk_67_method_7_code 2 (some (.object "java/lang/StringBuilder")) :: ws) R_9) (fun a U => a = #[(.ref r0), (.ref r1)] ∧ Z.Warmed39 U.vm ∧ U.heap = h0) (fun _ _ _ _ _ => True) (fun _ U o U' => ∃ v L, o = .returned v ∧ Q6 Z r0 r1 cs sv ks zs cl ar kk zc ct bs h0 n0 v U'.heap L ∧ FrameEnd U o U' L R_9.cells R_9.slots) := by
  refine MetFree.of_bodySF (plainFor_of_name own_pn4) hisR ?_
  intro p e s m args below meth c s₁ Bd hml0 hP hK
  obtain ⟨rfl, hZ, hh⟩ := hP
  have hx := Bd.exec
  have hby := Bd.bytes
  have hml : c.maxLocals = 2 := hml0
  have hown : s.vm.findClass "java/lang/StringBuilder" = some m.cls := findClass_of_methodNamed Bd.named
  have hnm := (name_of_methodNamed Bd.named Bd.method).1
  have X0 : Stand p l e R_9 s m #[(.ref r0), (.ref r1)] below meth c s₁ [] 0 0 := Stand.of_body Bd
  have e0 : s₁.heap = h0 := by rw [← hh, Bd.state]; rfl
  have N0 := Fr.nil n0
  have KR : Keep h0 h0 [r0, ar] := Keep.refl h0 _
  show Good p e below (fun o U' => ∃ v L, o = .returned v ∧ Q6 Z r0 r1 cs sv ks zs cl ar kk zc ct bs h0 n0 v U'.heap L ∧ FrameEnd s o U' L R_9.cells R_9.slots) _
  refine Good.back (S' := s₁.setTop (mkF m 0 #[.val (.ref r0), .val (.ref r1)] [])) (fun t k => castTop (own_ef_6 m r0 r1) k) ?_
  show Good p e below _ (s₁.setTop (mkF m 0 (a_RR r0 r1) []))
  refine Good.back (fun _ k => XS.aloadN X0.here hx rfl (hb hby k6_0.1.1.1) rfl rfl k) ?_
  refine Good.back (fun _ k => XS.aloadN X0.here hx rfl (hb hby k6_0.1.1.2) rfl rfl k) ?_
  obtain ⟨_, _, ⟨T1, L1, k1, n1⟩, -, X1, ⟨Lc1, hQ1, l1, y1, z1⟩, st1⟩ := superBack X0 hx hZ (y := y_11) hown (wd hw 47 rfl) (own_sameM (z := y_5) (wd hw 50 rfl) (wd hw 70 rfl) rfl (by decide)) (wd hw 48 rfl) (wd hw 49 rfl) (by decide) (backOf (W := 0) (rm7 l Z a0 hw [] r0 r1 cs sv ks zs cl ar kk zc ct bs h0 n0 Z0 S_cs (hcs) E0 g0 Fk Fc Fv Ea Va ga (by first | assumption | decide) (by first | assumption | decide) Es Fsv Fsc Vs (by first | assumption | decide) (by first | assumption | decide)) hZ (wd hw 51 rfl) (wd hw 26 rfl) (by decide) (by decide)) e0 (Ins.self E0) (g := (mkF m 2 (a_RR r0 r1) [.ref r1, .ref r0])) rfl (by rw [hml]; rfl) (wd hw 51 rfl) (argsL := [(.ref r1)]) (rest := []) (lenOf own_pd10 rfl) rfl (by show 2 * 0 + _ ≤ _; exact Nat.le_of_eq rfl) (hb hby k6_0.1.2) (fun _ _ => ⟨rfl, e0, (by decide : 0 + 1 ≤ _), (by decide : 0 + 200 ≤ _)⟩)
  dsimp only [Pt.U, Pt.locs, Pt.cells, Pt.slots] at X1 l1 y1 z1 st1 hQ1
  subst l1 y1 z1
  obtain ⟨a2_1, k2_1, z2_1, c2_1, rfl, N1q, Kq1, o1_0, o1_1, o1_2, o1_3, o1_4, o1_5, o1_6, o1_7⟩ := hQ1
  have N1 := Fr.app N0 N1q
  have Z2 : n0 ≤ T1.heap.size := Nat.le_trans Z0 Kq1.1
  have K3 : Keep h0 T1.heap [r0, ar] := KR.trans Kq1 (allS (Or.inl (List.mem_of_getElem? (i := 0) rfl)) (allS (Or.inl (List.mem_of_getElem? (i := 1) rfl)) all0))
  have g_a2_1 : n0 ≤ a2_1 := own_rel o1_0 ga Z0
  have kp_a2_1 : a2_1 ∈ [r0, ar] ∨ h0.size ≤ a2_1 := own_kp o1_0 (Or.inl (List.mem_of_getElem? (i := 1) rfl)) KR.1
  refine Good.back (fun _ k => st1.trans k) ?_
  refine Good.back (fun _ k => XS.pop X1.here hx rfl (hb hby k6_0.2.1.1) rfl rfl k) ?_
  refine Good.back (fun _ k => XS.aloadN X1.here hx rfl (hb hby k6_0.2.1.2) rfl rfl k) ?_
  show Good p e below _ (T1.setTop (mkF m 7 (a_RR r0 r1) [.ref r0]))
  obtain ⟨fs4, hr4, hrun4, hended4, hW4, hsame4⟩ := X1.leave (v := some (.ref r0)) (fun h => by rw [Bd.returns] at h; cases h)
  refine Good.done (retOut X1 hx Bd.returns rfl (Or.inr (Or.inr (Or.inr (Or.inr ⟨rfl, rfl, rfl⟩)))) (hb hby k6_0.2.2) hr4) hrun4 hended4 ⟨_, _, rfl, ?_, ⟨_, rfl⟩, hW4, hsame4.mono (by decide) (by decide)⟩
  show Q6 Z r0 r1 cs sv ks zs cl ar kk zc ct bs h0 n0 _ T1.heap _
  exact ⟨a2_1, k2_1, z2_1, c2_1, rfl, N1, K3, (o1_0), o1_1, o1_2, o1_3, o1_4, o1_5, (o1_6), (o1_7)⟩
theorem own_pn5 : plainName "java/lang/Long" = true := by first | (simp [plainName, overriddenIn]; done) | decide +kernel
abbrev B16 := jdk_35_method_15_code
theorem k16_0 : ((own_A B16 0 (.iconst 1) 1 ∧ own_A B16 1 (.istore_n 2) 1) ∧ own_A B16 2 (.lload_n 0) 1 ∧ own_A B16 3 (.lconst 0) 1) ∧ (own_A B16 4 .lcmp 1 ∧ own_A B16 5 (.ifCond .lt 8) 3) ∧ own_A B16 8 (.iconst 0) 1 ∧ own_A B16 9 (.istore_n 2) 1 := by decide +kernel
theorem k16_1 : ((own_A B16 10 (.lload_n 0) 1 ∧ own_A B16 11 .lneg 1) ∧ own_A B16 12 (.lstore_n 0) 1 ∧ own_A B16 13 (.ldc2_w 140) 3) ∧ (own_A B16 16 (.lstore_n 3) 1 ∧ own_A B16 17 (.iconst 1) 1) ∧ own_A B16 18 (.istore 5) 2 ∧ own_A B16 20 (.iload 5) 2 := by decide +kernel
theorem k16_2 : ((own_A B16 22 (.bipush 19) 2 ∧ own_A B16 24 (.if_icmp .ge 26) 3) ∧ own_A B16 27 (.lload_n 0) 1 ∧ own_A B16 28 (.lload_n 3) 1) ∧ (own_A B16 29 .lcmp 1 ∧ own_A B16 30 (.ifCond .le 8) 3) ∧ own_A B16 33 (.iload 5) 2 ∧ own_A B16 35 (.iload_n 2) 1 := by decide +kernel
theorem k16_3 : ((own_A B16 36 .iadd 1 ∧ own_A B16 37 .ireturn 1) ∧ own_A B16 38 (.ldc2_w 53) 3 ∧ own_A B16 41 (.lload_n 3) 1) ∧ (own_A B16 42 .lmul 1 ∧ own_A B16 43 (.lstore_n 3) 1) ∧ own_A B16 44 (.iinc 5 1) 3 ∧ own_A B16 47 (.goto (-27)) 3 := by decide +kernel
theorem own_ef_16 (m : MethodId) (x0 : Int64) : entryFrame m #[(.long x0)] 6 = mkF m 0 #[.val (.long x0), .second, .unset, .unset, .unset, .unset] [] := by first | (simp [entryFrame, mkF, argsToLocals, Value.category]; done) | rfl
def Q16 (Z : State) (q0 : Int64) (h0 : Heap) (n0 : Nat) (v : Option Value) (h : Heap) (L : List Loc) : Prop := v = some (.int (own_sz q0)) ∧ Fr n0 L ∧ h = h0
set_option maxRecDepth 65536 in
set_option maxHeartbeats 40000000 in
theorem rm16 (l : Launch) (Z : State) (a0 : Array Value) (hw : ∀ d ∈ tables_1, d.before a0 Z = true) (ws : List Jvm.Cond) (q0 : Int64) (h0 : Heap) (n0 : Nat) (Z0 : n0 ≤ h0.size) (hv : -4294967296 ≤ q0.toInt ∧ q0.toInt ≤ 4294967296) :
    MetFree l y_13 (head1 (Jvm.Cond.code y_13 jdk_35_method_15_code 6 (some .int) :: ws) R_0) (fun a U => a = #[(.long q0)] ∧ Z.Warmed39 U.vm ∧ U.heap = h0) (fun _ _ _ _ _ => True) (fun _ U o U' => ∃ v L, o = .returned v ∧ Q16 Z q0 h0 n0 v U'.heap L ∧ FrameEnd U o U' L R_0.cells R_0.slots) := by
  refine MetFree.of_bodySF (plainFor_of_name own_pn5) hisR ?_
  intro p e s m args below meth c s₁ Bd hml0 hP hK
  obtain ⟨rfl, hZ, hh⟩ := hP
  have hx := Bd.exec
  have hby := Bd.bytes
  have hml : c.maxLocals = 6 := hml0
  have hown : s.vm.findClass "java/lang/Long" = some m.cls := findClass_of_methodNamed Bd.named
  have hnm := (name_of_methodNamed Bd.named Bd.method).1
  have X0 : Stand p l e R_0 s m #[(.long q0)] below meth c s₁ [] 0 0 := Stand.of_body Bd
  have e0 : s₁.heap = h0 := by rw [← hh, Bd.state]; rfl
  have N0 := Fr.nil n0
  show Good p e below (fun o U' => ∃ v L, o = .returned v ∧ Q16 Z q0 h0 n0 v U'.heap L ∧ FrameEnd s o U' L R_0.cells R_0.slots) _
  refine Good.back (S' := s₁.setTop (mkF m 0 #[.val (.long q0), .second, .unset, .unset, .unset, .unset] [])) (fun t k => castTop (own_ef_16 m q0) k) ?_
  show Good p e below _ (s₁.setTop (mkF m 0 (a_Jsu4 q0) []))
  refine Good.back (fun _ k => XS.iconst X0.here hx rfl (hb hby k16_0.1.1.1) k) ?_
  refine Good.back (fun _ k => XS.istoreN X0.here hx rfl (hb hby k16_0.1.1.2) rfl (l' := (a_JsIu3 q0 1)) rfl k) ?_
  show Good p e below _ (s₁.setTop (mkF m 2 (a_JsIu3 q0 1) []))
  have key13 : ∀ (x0 : Int64) (dd : Int32) (sg : List Int32) (mm : Nat) (Tk13 : State) (lk13 : List Loc) (Xk13 : Stand p l e R_0 s m #[(.long q0)] below meth c Tk13 lk13 0 0) (Nk13 : Fr n0 lk13) (ek13 : Tk13.heap = h0) (hm : x0.toInt = -(mm : Int)) (hmB : mm ≤ 4294967296) (hsg : (dd = 0 ∧ sg = []) ∨ (dd = 1 ∧ sg = [45])) (hsd : own_sd q0 = sg ++ own_dg mm), Good p e below (fun o U' => ∃ v L, o = .returned v ∧ Q16 Z q0 h0 n0 v U'.heap L ∧ FrameEnd s o U' L R_0.cells R_0.slots) (Tk13.setTop (mkF m 13 (a_JsIu3 x0 dd) [])) := by
    intro x0 dd sg mm Tk13 lk13 Xk13 Nk13 ek13 hm hmB hsg hsd
    refine Good.back (Xk13.ldc2Long hx hown (mvT hZ (wd hw 107 rfl)) (g := (mkF m 13 (a_JsIu3 x0 dd) [])) rfl (hb hby k16_1.1.2.2)) ?_
    refine Good.back (fun _ k => XS.lstoreN Xk13.here hx rfl (hb hby k16_1.2.1.1) rfl (l' := (a_JsIJsu x0 dd (-10))) rfl k) ?_
    refine Good.back (fun _ k => XS.iconst Xk13.here hx rfl (hb hby k16_1.2.1.2) k) ?_
    refine Good.back (fun _ k => XS.istore Xk13.here hx rfl (hb hby k16_1.2.2.1) rfl (l' := (a_JsIJsI x0 dd (-10) 1)) rfl k) ?_
    refine Good.back (fun _ k => XS.iload Xk13.here hx rfl (hb hby k16_1.2.2.2) rfl k) ?_
    refine Good.back (fun _ k => XS.bipush Xk13.here hx rfl (hb hby k16_2.1.1.1) k) ?_
    show Good p e below _ (Tk13.setTop (mkF m 24 (a_JsIJsI x0 dd (-10) 1) [.int 19, .int 1]))
    refine Good.back (fun _ k => XS.icmpNo Xk13.here hx rfl (hb hby k16_2.1.1.2) rfl (tlt (by decide : ((1 : Int32) < (19 : Int32)))).2.1 k) ?_
    refine Good.back (fun _ k => XS.lloadN Xk13.here hx rfl (hb hby k16_2.1.2.1) rfl k) ?_
    refine Good.back (fun _ k => XS.lloadN Xk13.here hx rfl (hb hby k16_2.1.2.2) rfl k) ?_
    refine Good.back (fun _ k => XS.lcmp Xk13.here hx rfl (hb hby k16_2.2.1.1) rfl k) ?_
    show Good p e below _ (Tk13.setTop (mkF m 30 (a_JsIJsI x0 dd (-10) 1) [.int (lcmpW x0 (-10 : Int64))]))
    by_cases hc30_1 : (0 : Int32) < (lcmpW x0 (-10 : Int64))
    · refine Good.back (fun _ k => XS.ifNo Xk13.here hx rfl (hb hby k16_2.2.1.2) rfl ((if0 _ _).trans (tlt hc30_1).2.2.2) k) ?_
      refine Good.back (fun _ k => XS.iload Xk13.here hx rfl (hb hby k16_2.2.2.1) rfl k) ?_
      refine Good.back (fun _ k => XS.iloadN Xk13.here hx rfl (hb hby k16_2.2.2.2) rfl k) ?_
      refine Good.back (fun _ k => XS.iadd Xk13.here hx rfl (hb hby k16_3.1.1.1) rfl k) ?_
      show Good p e below _ (Tk13.setTop (mkF m 37 (a_JsIJsI x0 dd (-10) 1) [.int ((1 : Int32) + dd)]))
      obtain ⟨fs2, hr2, hrun2, hended2, hW2, hsame2⟩ := Xk13.leave (v := some (.int ((1 : Int32) + dd))) (fun h => by rw [Bd.returns] at h; cases h)
      refine Good.done (retI Xk13 hx Bd.returns (hb hby k16_3.1.1.2) hr2) hrun2 hended2 ⟨_, _, rfl, ?_, ⟨_, rfl⟩, hW2, hsame2.mono (by decide) (by decide)⟩
      show Q16 Z q0 h0 n0 _ Tk13.heap _
      rw [ek13]
      have u1 := (lw_gt _ _).mp hc30_1
      rw [Int64.lt_iff_toInt_lt, hm, show ((-10 : Int64)).toInt = -10 from rfl] at u1
      have hl : (own_dg mm).length = 1 := own_dgLen 0 mm (Nat.lt_of_lt_of_le (show mm < 10 by omega) (by decide)) (Or.inl rfl)
      exact ⟨congrArg (fun z => some (Value.int z)) (by unfold own_sz; rw [hsd, List.length_append, hl]; rcases hsg with ⟨rfl, rfl⟩ | ⟨rfl, rfl⟩ <;> rfl), Nk13, rfl⟩
    · refine Good.back (fun _ k => XS.ifYes Xk13.here hx rfl (pc0 := 30) (pc' := 38) rfl (hb hby k16_2.2.1.2) rfl ((if0 _ _).trans (flt hc30_1).2.2.2) (by decide) (by decide) k) ?_
      refine Good.back (Xk13.ldc2Long hx hown (mvT hZ (wd hw 272 rfl)) (g := (mkF m 38 (a_JsIJsI x0 dd (-10) 1) [])) rfl (hb hby k16_3.1.2.1)) ?_
      refine Good.back (fun _ k => XS.lloadN Xk13.here hx rfl (hb hby k16_3.1.2.2) rfl k) ?_
      refine Good.back (fun _ k => XS.lmul Xk13.here hx rfl (hb hby k16_3.2.1.1) rfl k) ?_
      show Good p e below _ (Tk13.setTop (mkF m 43 (a_JsIJsI x0 dd (-10) 1) [.long ((10 : Int64) * (-10 : Int64))]))
      rw [show (((10 : Int64) * (-10 : Int64)) : Int64) = (-100 : Int64) from by decide]
      refine Good.back (fun _ k => XS.lstoreN Xk13.here hx rfl (hb hby k16_3.2.1.2) rfl (l' := (a_JsIJsI x0 dd (-100) 1)) rfl k) ?_
      refine Good.back (fun _ k => XS.iinc Xk13.here hx rfl (hb hby k16_3.2.2.1) rfl (l' := (a_JsIJsI x0 dd (-100) ((1 : Int32) + (1 : Int32)))) rfl k) ?_
      show Good p e below _ (Tk13.setTop (mkF m 47 (a_JsIJsI x0 dd (-100) ((1 : Int32) + (1 : Int32))) []))
      rw [show (((1 : Int32) + (1 : Int32)) : Int32) = (2 : Int32) from by decide]
      refine Good.back (fun _ k => XS.goto Xk13.here hx rfl (pc0 := 47) (pc' := 20) rfl (hb hby k16_3.2.2.2) (by decide) (by decide) k) ?_
      show Good p e below _ (Tk13.setTop (mkF m 20 (a_JsIJsI x0 dd (-100) 2) []))
      refine Good.back (fun _ k => XS.iload Xk13.here hx rfl (hb hby k16_1.2.2.2) rfl k) ?_
      refine Good.back (fun _ k => XS.bipush Xk13.here hx rfl (hb hby k16_2.1.1.1) k) ?_
      refine Good.back (fun _ k => XS.icmpNo Xk13.here hx rfl (hb hby k16_2.1.1.2) rfl (tlt (by decide : ((2 : Int32) < (19 : Int32)))).2.1 k) ?_
      refine Good.back (fun _ k => XS.lloadN Xk13.here hx rfl (hb hby k16_2.1.2.1) rfl k) ?_
      refine Good.back (fun _ k => XS.lloadN Xk13.here hx rfl (hb hby k16_2.1.2.2) rfl k) ?_
      refine Good.back (fun _ k => XS.lcmp Xk13.here hx rfl (hb hby k16_2.2.1.1) rfl k) ?_
      show Good p e below _ (Tk13.setTop (mkF m 30 (a_JsIJsI x0 dd (-100) 2) [.int (lcmpW x0 (-100 : Int64))]))
      by_cases hc30_3 : (0 : Int32) < (lcmpW x0 (-100 : Int64))
      · refine Good.back (fun _ k => XS.ifNo Xk13.here hx rfl (hb hby k16_2.2.1.2) rfl ((if0 _ _).trans (tlt hc30_3).2.2.2) k) ?_
        refine Good.back (fun _ k => XS.iload Xk13.here hx rfl (hb hby k16_2.2.2.1) rfl k) ?_
        refine Good.back (fun _ k => XS.iloadN Xk13.here hx rfl (hb hby k16_2.2.2.2) rfl k) ?_
        refine Good.back (fun _ k => XS.iadd Xk13.here hx rfl (hb hby k16_3.1.1.1) rfl k) ?_
        show Good p e below _ (Tk13.setTop (mkF m 37 (a_JsIJsI x0 dd (-100) 2) [.int ((2 : Int32) + dd)]))
        obtain ⟨fs4, hr4, hrun4, hended4, hW4, hsame4⟩ := Xk13.leave (v := some (.int ((2 : Int32) + dd))) (fun h => by rw [Bd.returns] at h; cases h)
        refine Good.done (retI Xk13 hx Bd.returns (hb hby k16_3.1.1.2) hr4) hrun4 hended4 ⟨_, _, rfl, ?_, ⟨_, rfl⟩, hW4, hsame4.mono (by decide) (by decide)⟩
        show Q16 Z q0 h0 n0 _ Tk13.heap _
        rw [ek13]
        have w1 : ¬ ((-10 : Int64) < x0) := fun q => hc30_1 ((lw_gt _ _).mpr q)
        rw [Int64.lt_iff_toInt_lt, hm, show ((-10 : Int64)).toInt = -10 from rfl] at w1
        have u2 := (lw_gt _ _).mp hc30_3
        rw [Int64.lt_iff_toInt_lt, hm, show ((-100 : Int64)).toInt = -100 from rfl] at u2
        have hl : (own_dg mm).length = 2 := own_dgLen 1 mm (Nat.lt_of_lt_of_le (show mm < 100 by omega) (by decide)) (Or.inr (Nat.le_trans (show 10 ^ 1 ≤ 10 by decide) (by omega)))
        exact ⟨congrArg (fun z => some (Value.int z)) (by unfold own_sz; rw [hsd, List.length_append, hl]; rcases hsg with ⟨rfl, rfl⟩ | ⟨rfl, rfl⟩ <;> rfl), Nk13, rfl⟩
      · refine Good.back (fun _ k => XS.ifYes Xk13.here hx rfl (pc0 := 30) (pc' := 38) rfl (hb hby k16_2.2.1.2) rfl ((if0 _ _).trans (flt hc30_3).2.2.2) (by decide) (by decide) k) ?_
        refine Good.back (Xk13.ldc2Long hx hown (mvT hZ (wd hw 272 rfl)) (g := (mkF m 38 (a_JsIJsI x0 dd (-100) 2) [])) rfl (hb hby k16_3.1.2.1)) ?_
        refine Good.back (fun _ k => XS.lloadN Xk13.here hx rfl (hb hby k16_3.1.2.2) rfl k) ?_
        refine Good.back (fun _ k => XS.lmul Xk13.here hx rfl (hb hby k16_3.2.1.1) rfl k) ?_
        show Good p e below _ (Tk13.setTop (mkF m 43 (a_JsIJsI x0 dd (-100) 2) [.long ((10 : Int64) * (-100 : Int64))]))
        rw [show (((10 : Int64) * (-100 : Int64)) : Int64) = (-1000 : Int64) from by decide]
        refine Good.back (fun _ k => XS.lstoreN Xk13.here hx rfl (hb hby k16_3.2.1.2) rfl (l' := (a_JsIJsI x0 dd (-1000) 2)) rfl k) ?_
        refine Good.back (fun _ k => XS.iinc Xk13.here hx rfl (hb hby k16_3.2.2.1) rfl (l' := (a_JsIJsI x0 dd (-1000) ((2 : Int32) + (1 : Int32)))) rfl k) ?_
        show Good p e below _ (Tk13.setTop (mkF m 47 (a_JsIJsI x0 dd (-1000) ((2 : Int32) + (1 : Int32))) []))
        rw [show (((2 : Int32) + (1 : Int32)) : Int32) = (3 : Int32) from by decide]
        refine Good.back (fun _ k => XS.goto Xk13.here hx rfl (pc0 := 47) (pc' := 20) rfl (hb hby k16_3.2.2.2) (by decide) (by decide) k) ?_
        show Good p e below _ (Tk13.setTop (mkF m 20 (a_JsIJsI x0 dd (-1000) 3) []))
        refine Good.back (fun _ k => XS.iload Xk13.here hx rfl (hb hby k16_1.2.2.2) rfl k) ?_
        refine Good.back (fun _ k => XS.bipush Xk13.here hx rfl (hb hby k16_2.1.1.1) k) ?_
        refine Good.back (fun _ k => XS.icmpNo Xk13.here hx rfl (hb hby k16_2.1.1.2) rfl (tlt (by decide : ((3 : Int32) < (19 : Int32)))).2.1 k) ?_
        refine Good.back (fun _ k => XS.lloadN Xk13.here hx rfl (hb hby k16_2.1.2.1) rfl k) ?_
        refine Good.back (fun _ k => XS.lloadN Xk13.here hx rfl (hb hby k16_2.1.2.2) rfl k) ?_
        refine Good.back (fun _ k => XS.lcmp Xk13.here hx rfl (hb hby k16_2.2.1.1) rfl k) ?_
        show Good p e below _ (Tk13.setTop (mkF m 30 (a_JsIJsI x0 dd (-1000) 3) [.int (lcmpW x0 (-1000 : Int64))]))
        by_cases hc30_5 : (0 : Int32) < (lcmpW x0 (-1000 : Int64))
        · refine Good.back (fun _ k => XS.ifNo Xk13.here hx rfl (hb hby k16_2.2.1.2) rfl ((if0 _ _).trans (tlt hc30_5).2.2.2) k) ?_
          refine Good.back (fun _ k => XS.iload Xk13.here hx rfl (hb hby k16_2.2.2.1) rfl k) ?_
          refine Good.back (fun _ k => XS.iloadN Xk13.here hx rfl (hb hby k16_2.2.2.2) rfl k) ?_
          refine Good.back (fun _ k => XS.iadd Xk13.here hx rfl (hb hby k16_3.1.1.1) rfl k) ?_
          show Good p e below _ (Tk13.setTop (mkF m 37 (a_JsIJsI x0 dd (-1000) 3) [.int ((3 : Int32) + dd)]))
          obtain ⟨fs6, hr6, hrun6, hended6, hW6, hsame6⟩ := Xk13.leave (v := some (.int ((3 : Int32) + dd))) (fun h => by rw [Bd.returns] at h; cases h)
          refine Good.done (retI Xk13 hx Bd.returns (hb hby k16_3.1.1.2) hr6) hrun6 hended6 ⟨_, _, rfl, ?_, ⟨_, rfl⟩, hW6, hsame6.mono (by decide) (by decide)⟩
          show Q16 Z q0 h0 n0 _ Tk13.heap _
          rw [ek13]
          have w2 : ¬ ((-100 : Int64) < x0) := fun q => hc30_3 ((lw_gt _ _).mpr q)
          rw [Int64.lt_iff_toInt_lt, hm, show ((-100 : Int64)).toInt = -100 from rfl] at w2
          have u3 := (lw_gt _ _).mp hc30_5
          rw [Int64.lt_iff_toInt_lt, hm, show ((-1000 : Int64)).toInt = -1000 from rfl] at u3
          have hl : (own_dg mm).length = 3 := own_dgLen 2 mm (Nat.lt_of_lt_of_le (show mm < 1000 by omega) (by decide)) (Or.inr (Nat.le_trans (show 10 ^ 2 ≤ 100 by decide) (by omega)))
          exact ⟨congrArg (fun z => some (Value.int z)) (by unfold own_sz; rw [hsd, List.length_append, hl]; rcases hsg with ⟨rfl, rfl⟩ | ⟨rfl, rfl⟩ <;> rfl), Nk13, rfl⟩
        · refine Good.back (fun _ k => XS.ifYes Xk13.here hx rfl (pc0 := 30) (pc' := 38) rfl (hb hby k16_2.2.1.2) rfl ((if0 _ _).trans (flt hc30_5).2.2.2) (by decide) (by decide) k) ?_
          refine Good.back (Xk13.ldc2Long hx hown (mvT hZ (wd hw 272 rfl)) (g := (mkF m 38 (a_JsIJsI x0 dd (-1000) 3) [])) rfl (hb hby k16_3.1.2.1)) ?_
          refine Good.back (fun _ k => XS.lloadN Xk13.here hx rfl (hb hby k16_3.1.2.2) rfl k) ?_
          refine Good.back (fun _ k => XS.lmul Xk13.here hx rfl (hb hby k16_3.2.1.1) rfl k) ?_
          show Good p e below _ (Tk13.setTop (mkF m 43 (a_JsIJsI x0 dd (-1000) 3) [.long ((10 : Int64) * (-1000 : Int64))]))
          rw [show (((10 : Int64) * (-1000 : Int64)) : Int64) = (-10000 : Int64) from by decide]
          refine Good.back (fun _ k => XS.lstoreN Xk13.here hx rfl (hb hby k16_3.2.1.2) rfl (l' := (a_JsIJsI x0 dd (-10000) 3)) rfl k) ?_
          refine Good.back (fun _ k => XS.iinc Xk13.here hx rfl (hb hby k16_3.2.2.1) rfl (l' := (a_JsIJsI x0 dd (-10000) ((3 : Int32) + (1 : Int32)))) rfl k) ?_
          show Good p e below _ (Tk13.setTop (mkF m 47 (a_JsIJsI x0 dd (-10000) ((3 : Int32) + (1 : Int32))) []))
          rw [show (((3 : Int32) + (1 : Int32)) : Int32) = (4 : Int32) from by decide]
          refine Good.back (fun _ k => XS.goto Xk13.here hx rfl (pc0 := 47) (pc' := 20) rfl (hb hby k16_3.2.2.2) (by decide) (by decide) k) ?_
          show Good p e below _ (Tk13.setTop (mkF m 20 (a_JsIJsI x0 dd (-10000) 4) []))
          refine Good.back (fun _ k => XS.iload Xk13.here hx rfl (hb hby k16_1.2.2.2) rfl k) ?_
          refine Good.back (fun _ k => XS.bipush Xk13.here hx rfl (hb hby k16_2.1.1.1) k) ?_
          refine Good.back (fun _ k => XS.icmpNo Xk13.here hx rfl (hb hby k16_2.1.1.2) rfl (tlt (by decide : ((4 : Int32) < (19 : Int32)))).2.1 k) ?_
          refine Good.back (fun _ k => XS.lloadN Xk13.here hx rfl (hb hby k16_2.1.2.1) rfl k) ?_
          refine Good.back (fun _ k => XS.lloadN Xk13.here hx rfl (hb hby k16_2.1.2.2) rfl k) ?_
          refine Good.back (fun _ k => XS.lcmp Xk13.here hx rfl (hb hby k16_2.2.1.1) rfl k) ?_
          show Good p e below _ (Tk13.setTop (mkF m 30 (a_JsIJsI x0 dd (-10000) 4) [.int (lcmpW x0 (-10000 : Int64))]))
          by_cases hc30_7 : (0 : Int32) < (lcmpW x0 (-10000 : Int64))
          · refine Good.back (fun _ k => XS.ifNo Xk13.here hx rfl (hb hby k16_2.2.1.2) rfl ((if0 _ _).trans (tlt hc30_7).2.2.2) k) ?_
            refine Good.back (fun _ k => XS.iload Xk13.here hx rfl (hb hby k16_2.2.2.1) rfl k) ?_
            refine Good.back (fun _ k => XS.iloadN Xk13.here hx rfl (hb hby k16_2.2.2.2) rfl k) ?_
            refine Good.back (fun _ k => XS.iadd Xk13.here hx rfl (hb hby k16_3.1.1.1) rfl k) ?_
            show Good p e below _ (Tk13.setTop (mkF m 37 (a_JsIJsI x0 dd (-10000) 4) [.int ((4 : Int32) + dd)]))
            obtain ⟨fs8, hr8, hrun8, hended8, hW8, hsame8⟩ := Xk13.leave (v := some (.int ((4 : Int32) + dd))) (fun h => by rw [Bd.returns] at h; cases h)
            refine Good.done (retI Xk13 hx Bd.returns (hb hby k16_3.1.1.2) hr8) hrun8 hended8 ⟨_, _, rfl, ?_, ⟨_, rfl⟩, hW8, hsame8.mono (by decide) (by decide)⟩
            show Q16 Z q0 h0 n0 _ Tk13.heap _
            rw [ek13]
            have w3 : ¬ ((-1000 : Int64) < x0) := fun q => hc30_5 ((lw_gt _ _).mpr q)
            rw [Int64.lt_iff_toInt_lt, hm, show ((-1000 : Int64)).toInt = -1000 from rfl] at w3
            have u4 := (lw_gt _ _).mp hc30_7
            rw [Int64.lt_iff_toInt_lt, hm, show ((-10000 : Int64)).toInt = -10000 from rfl] at u4
            have hl : (own_dg mm).length = 4 := own_dgLen 3 mm (Nat.lt_of_lt_of_le (show mm < 10000 by omega) (by decide)) (Or.inr (Nat.le_trans (show 10 ^ 3 ≤ 1000 by decide) (by omega)))
            exact ⟨congrArg (fun z => some (Value.int z)) (by unfold own_sz; rw [hsd, List.length_append, hl]; rcases hsg with ⟨rfl, rfl⟩ | ⟨rfl, rfl⟩ <;> rfl), Nk13, rfl⟩
          · refine Good.back (fun _ k => XS.ifYes Xk13.here hx rfl (pc0 := 30) (pc' := 38) rfl (hb hby k16_2.2.1.2) rfl ((if0 _ _).trans (flt hc30_7).2.2.2) (by decide) (by decide) k) ?_
            refine Good.back (Xk13.ldc2Long hx hown (mvT hZ (wd hw 272 rfl)) (g := (mkF m 38 (a_JsIJsI x0 dd (-10000) 4) [])) rfl (hb hby k16_3.1.2.1)) ?_
            refine Good.back (fun _ k => XS.lloadN Xk13.here hx rfl (hb hby k16_3.1.2.2) rfl k) ?_
            refine Good.back (fun _ k => XS.lmul Xk13.here hx rfl (hb hby k16_3.2.1.1) rfl k) ?_
            show Good p e below _ (Tk13.setTop (mkF m 43 (a_JsIJsI x0 dd (-10000) 4) [.long ((10 : Int64) * (-10000 : Int64))]))
            rw [show (((10 : Int64) * (-10000 : Int64)) : Int64) = (-100000 : Int64) from by decide]
            refine Good.back (fun _ k => XS.lstoreN Xk13.here hx rfl (hb hby k16_3.2.1.2) rfl (l' := (a_JsIJsI x0 dd (-100000) 4)) rfl k) ?_
            refine Good.back (fun _ k => XS.iinc Xk13.here hx rfl (hb hby k16_3.2.2.1) rfl (l' := (a_JsIJsI x0 dd (-100000) ((4 : Int32) + (1 : Int32)))) rfl k) ?_
            show Good p e below _ (Tk13.setTop (mkF m 47 (a_JsIJsI x0 dd (-100000) ((4 : Int32) + (1 : Int32))) []))
            rw [show (((4 : Int32) + (1 : Int32)) : Int32) = (5 : Int32) from by decide]
            refine Good.back (fun _ k => XS.goto Xk13.here hx rfl (pc0 := 47) (pc' := 20) rfl (hb hby k16_3.2.2.2) (by decide) (by decide) k) ?_
            show Good p e below _ (Tk13.setTop (mkF m 20 (a_JsIJsI x0 dd (-100000) 5) []))
            refine Good.back (fun _ k => XS.iload Xk13.here hx rfl (hb hby k16_1.2.2.2) rfl k) ?_
            refine Good.back (fun _ k => XS.bipush Xk13.here hx rfl (hb hby k16_2.1.1.1) k) ?_
            refine Good.back (fun _ k => XS.icmpNo Xk13.here hx rfl (hb hby k16_2.1.1.2) rfl (tlt (by decide : ((5 : Int32) < (19 : Int32)))).2.1 k) ?_
            refine Good.back (fun _ k => XS.lloadN Xk13.here hx rfl (hb hby k16_2.1.2.1) rfl k) ?_
            refine Good.back (fun _ k => XS.lloadN Xk13.here hx rfl (hb hby k16_2.1.2.2) rfl k) ?_
            refine Good.back (fun _ k => XS.lcmp Xk13.here hx rfl (hb hby k16_2.2.1.1) rfl k) ?_
            show Good p e below _ (Tk13.setTop (mkF m 30 (a_JsIJsI x0 dd (-100000) 5) [.int (lcmpW x0 (-100000 : Int64))]))
            by_cases hc30_9 : (0 : Int32) < (lcmpW x0 (-100000 : Int64))
            · refine Good.back (fun _ k => XS.ifNo Xk13.here hx rfl (hb hby k16_2.2.1.2) rfl ((if0 _ _).trans (tlt hc30_9).2.2.2) k) ?_
              refine Good.back (fun _ k => XS.iload Xk13.here hx rfl (hb hby k16_2.2.2.1) rfl k) ?_
              refine Good.back (fun _ k => XS.iloadN Xk13.here hx rfl (hb hby k16_2.2.2.2) rfl k) ?_
              refine Good.back (fun _ k => XS.iadd Xk13.here hx rfl (hb hby k16_3.1.1.1) rfl k) ?_
              show Good p e below _ (Tk13.setTop (mkF m 37 (a_JsIJsI x0 dd (-100000) 5) [.int ((5 : Int32) + dd)]))
              obtain ⟨fs10, hr10, hrun10, hended10, hW10, hsame10⟩ := Xk13.leave (v := some (.int ((5 : Int32) + dd))) (fun h => by rw [Bd.returns] at h; cases h)
              refine Good.done (retI Xk13 hx Bd.returns (hb hby k16_3.1.1.2) hr10) hrun10 hended10 ⟨_, _, rfl, ?_, ⟨_, rfl⟩, hW10, hsame10.mono (by decide) (by decide)⟩
              show Q16 Z q0 h0 n0 _ Tk13.heap _
              rw [ek13]
              have w4 : ¬ ((-10000 : Int64) < x0) := fun q => hc30_7 ((lw_gt _ _).mpr q)
              rw [Int64.lt_iff_toInt_lt, hm, show ((-10000 : Int64)).toInt = -10000 from rfl] at w4
              have u5 := (lw_gt _ _).mp hc30_9
              rw [Int64.lt_iff_toInt_lt, hm, show ((-100000 : Int64)).toInt = -100000 from rfl] at u5
              have hl : (own_dg mm).length = 5 := own_dgLen 4 mm (Nat.lt_of_lt_of_le (show mm < 100000 by omega) (by decide)) (Or.inr (Nat.le_trans (show 10 ^ 4 ≤ 10000 by decide) (by omega)))
              exact ⟨congrArg (fun z => some (Value.int z)) (by unfold own_sz; rw [hsd, List.length_append, hl]; rcases hsg with ⟨rfl, rfl⟩ | ⟨rfl, rfl⟩ <;> rfl), Nk13, rfl⟩
            · refine Good.back (fun _ k => XS.ifYes Xk13.here hx rfl (pc0 := 30) (pc' := 38) rfl (hb hby k16_2.2.1.2) rfl ((if0 _ _).trans (flt hc30_9).2.2.2) (by decide) (by decide) k) ?_
              refine Good.back (Xk13.ldc2Long hx hown (mvT hZ (wd hw 272 rfl)) (g := (mkF m 38 (a_JsIJsI x0 dd (-100000) 5) [])) rfl (hb hby k16_3.1.2.1)) ?_
              refine Good.back (fun _ k => XS.lloadN Xk13.here hx rfl (hb hby k16_3.1.2.2) rfl k) ?_
              refine Good.back (fun _ k => XS.lmul Xk13.here hx rfl (hb hby k16_3.2.1.1) rfl k) ?_
              show Good p e below _ (Tk13.setTop (mkF m 43 (a_JsIJsI x0 dd (-100000) 5) [.long ((10 : Int64) * (-100000 : Int64))]))
              rw [show (((10 : Int64) * (-100000 : Int64)) : Int64) = (-1000000 : Int64) from by decide]
              refine Good.back (fun _ k => XS.lstoreN Xk13.here hx rfl (hb hby k16_3.2.1.2) rfl (l' := (a_JsIJsI x0 dd (-1000000) 5)) rfl k) ?_
              refine Good.back (fun _ k => XS.iinc Xk13.here hx rfl (hb hby k16_3.2.2.1) rfl (l' := (a_JsIJsI x0 dd (-1000000) ((5 : Int32) + (1 : Int32)))) rfl k) ?_
              show Good p e below _ (Tk13.setTop (mkF m 47 (a_JsIJsI x0 dd (-1000000) ((5 : Int32) + (1 : Int32))) []))
              rw [show (((5 : Int32) + (1 : Int32)) : Int32) = (6 : Int32) from by decide]
              refine Good.back (fun _ k => XS.goto Xk13.here hx rfl (pc0 := 47) (pc' := 20) rfl (hb hby k16_3.2.2.2) (by decide) (by decide) k) ?_
              show Good p e below _ (Tk13.setTop (mkF m 20 (a_JsIJsI x0 dd (-1000000) 6) []))
              refine Good.back (fun _ k => XS.iload Xk13.here hx rfl (hb hby k16_1.2.2.2) rfl k) ?_
              refine Good.back (fun _ k => XS.bipush Xk13.here hx rfl (hb hby k16_2.1.1.1) k) ?_
              refine Good.back (fun _ k => XS.icmpNo Xk13.here hx rfl (hb hby k16_2.1.1.2) rfl (tlt (by decide : ((6 : Int32) < (19 : Int32)))).2.1 k) ?_
              refine Good.back (fun _ k => XS.lloadN Xk13.here hx rfl (hb hby k16_2.1.2.1) rfl k) ?_
              refine Good.back (fun _ k => XS.lloadN Xk13.here hx rfl (hb hby k16_2.1.2.2) rfl k) ?_
              refine Good.back (fun _ k => XS.lcmp Xk13.here hx rfl (hb hby k16_2.2.1.1) rfl k) ?_
              show Good p e below _ (Tk13.setTop (mkF m 30 (a_JsIJsI x0 dd (-1000000) 6) [.int (lcmpW x0 (-1000000 : Int64))]))
              by_cases hc30_11 : (0 : Int32) < (lcmpW x0 (-1000000 : Int64))
              · refine Good.back (fun _ k => XS.ifNo Xk13.here hx rfl (hb hby k16_2.2.1.2) rfl ((if0 _ _).trans (tlt hc30_11).2.2.2) k) ?_
                refine Good.back (fun _ k => XS.iload Xk13.here hx rfl (hb hby k16_2.2.2.1) rfl k) ?_
                refine Good.back (fun _ k => XS.iloadN Xk13.here hx rfl (hb hby k16_2.2.2.2) rfl k) ?_
                refine Good.back (fun _ k => XS.iadd Xk13.here hx rfl (hb hby k16_3.1.1.1) rfl k) ?_
                show Good p e below _ (Tk13.setTop (mkF m 37 (a_JsIJsI x0 dd (-1000000) 6) [.int ((6 : Int32) + dd)]))
                obtain ⟨fs12, hr12, hrun12, hended12, hW12, hsame12⟩ := Xk13.leave (v := some (.int ((6 : Int32) + dd))) (fun h => by rw [Bd.returns] at h; cases h)
                refine Good.done (retI Xk13 hx Bd.returns (hb hby k16_3.1.1.2) hr12) hrun12 hended12 ⟨_, _, rfl, ?_, ⟨_, rfl⟩, hW12, hsame12.mono (by decide) (by decide)⟩
                show Q16 Z q0 h0 n0 _ Tk13.heap _
                rw [ek13]
                have w5 : ¬ ((-100000 : Int64) < x0) := fun q => hc30_9 ((lw_gt _ _).mpr q)
                rw [Int64.lt_iff_toInt_lt, hm, show ((-100000 : Int64)).toInt = -100000 from rfl] at w5
                have u6 := (lw_gt _ _).mp hc30_11
                rw [Int64.lt_iff_toInt_lt, hm, show ((-1000000 : Int64)).toInt = -1000000 from rfl] at u6
                have hl : (own_dg mm).length = 6 := own_dgLen 5 mm (Nat.lt_of_lt_of_le (show mm < 1000000 by omega) (by decide)) (Or.inr (Nat.le_trans (show 10 ^ 5 ≤ 100000 by decide) (by omega)))
                exact ⟨congrArg (fun z => some (Value.int z)) (by unfold own_sz; rw [hsd, List.length_append, hl]; rcases hsg with ⟨rfl, rfl⟩ | ⟨rfl, rfl⟩ <;> rfl), Nk13, rfl⟩
              · refine Good.back (fun _ k => XS.ifYes Xk13.here hx rfl (pc0 := 30) (pc' := 38) rfl (hb hby k16_2.2.1.2) rfl ((if0 _ _).trans (flt hc30_11).2.2.2) (by decide) (by decide) k) ?_
                refine Good.back (Xk13.ldc2Long hx hown (mvT hZ (wd hw 272 rfl)) (g := (mkF m 38 (a_JsIJsI x0 dd (-1000000) 6) [])) rfl (hb hby k16_3.1.2.1)) ?_
                refine Good.back (fun _ k => XS.lloadN Xk13.here hx rfl (hb hby k16_3.1.2.2) rfl k) ?_
                refine Good.back (fun _ k => XS.lmul Xk13.here hx rfl (hb hby k16_3.2.1.1) rfl k) ?_
                show Good p e below _ (Tk13.setTop (mkF m 43 (a_JsIJsI x0 dd (-1000000) 6) [.long ((10 : Int64) * (-1000000 : Int64))]))
                rw [show (((10 : Int64) * (-1000000 : Int64)) : Int64) = (-10000000 : Int64) from by decide]
                refine Good.back (fun _ k => XS.lstoreN Xk13.here hx rfl (hb hby k16_3.2.1.2) rfl (l' := (a_JsIJsI x0 dd (-10000000) 6)) rfl k) ?_
                refine Good.back (fun _ k => XS.iinc Xk13.here hx rfl (hb hby k16_3.2.2.1) rfl (l' := (a_JsIJsI x0 dd (-10000000) ((6 : Int32) + (1 : Int32)))) rfl k) ?_
                show Good p e below _ (Tk13.setTop (mkF m 47 (a_JsIJsI x0 dd (-10000000) ((6 : Int32) + (1 : Int32))) []))
                rw [show (((6 : Int32) + (1 : Int32)) : Int32) = (7 : Int32) from by decide]
                refine Good.back (fun _ k => XS.goto Xk13.here hx rfl (pc0 := 47) (pc' := 20) rfl (hb hby k16_3.2.2.2) (by decide) (by decide) k) ?_
                show Good p e below _ (Tk13.setTop (mkF m 20 (a_JsIJsI x0 dd (-10000000) 7) []))
                refine Good.back (fun _ k => XS.iload Xk13.here hx rfl (hb hby k16_1.2.2.2) rfl k) ?_
                refine Good.back (fun _ k => XS.bipush Xk13.here hx rfl (hb hby k16_2.1.1.1) k) ?_
                refine Good.back (fun _ k => XS.icmpNo Xk13.here hx rfl (hb hby k16_2.1.1.2) rfl (tlt (by decide : ((7 : Int32) < (19 : Int32)))).2.1 k) ?_
                refine Good.back (fun _ k => XS.lloadN Xk13.here hx rfl (hb hby k16_2.1.2.1) rfl k) ?_
                refine Good.back (fun _ k => XS.lloadN Xk13.here hx rfl (hb hby k16_2.1.2.2) rfl k) ?_
                refine Good.back (fun _ k => XS.lcmp Xk13.here hx rfl (hb hby k16_2.2.1.1) rfl k) ?_
                show Good p e below _ (Tk13.setTop (mkF m 30 (a_JsIJsI x0 dd (-10000000) 7) [.int (lcmpW x0 (-10000000 : Int64))]))
                by_cases hc30_13 : (0 : Int32) < (lcmpW x0 (-10000000 : Int64))
                · refine Good.back (fun _ k => XS.ifNo Xk13.here hx rfl (hb hby k16_2.2.1.2) rfl ((if0 _ _).trans (tlt hc30_13).2.2.2) k) ?_
                  refine Good.back (fun _ k => XS.iload Xk13.here hx rfl (hb hby k16_2.2.2.1) rfl k) ?_
                  refine Good.back (fun _ k => XS.iloadN Xk13.here hx rfl (hb hby k16_2.2.2.2) rfl k) ?_
                  refine Good.back (fun _ k => XS.iadd Xk13.here hx rfl (hb hby k16_3.1.1.1) rfl k) ?_
                  show Good p e below _ (Tk13.setTop (mkF m 37 (a_JsIJsI x0 dd (-10000000) 7) [.int ((7 : Int32) + dd)]))
                  obtain ⟨fs14, hr14, hrun14, hended14, hW14, hsame14⟩ := Xk13.leave (v := some (.int ((7 : Int32) + dd))) (fun h => by rw [Bd.returns] at h; cases h)
                  refine Good.done (retI Xk13 hx Bd.returns (hb hby k16_3.1.1.2) hr14) hrun14 hended14 ⟨_, _, rfl, ?_, ⟨_, rfl⟩, hW14, hsame14.mono (by decide) (by decide)⟩
                  show Q16 Z q0 h0 n0 _ Tk13.heap _
                  rw [ek13]
                  have w6 : ¬ ((-1000000 : Int64) < x0) := fun q => hc30_11 ((lw_gt _ _).mpr q)
                  rw [Int64.lt_iff_toInt_lt, hm, show ((-1000000 : Int64)).toInt = -1000000 from rfl] at w6
                  have u7 := (lw_gt _ _).mp hc30_13
                  rw [Int64.lt_iff_toInt_lt, hm, show ((-10000000 : Int64)).toInt = -10000000 from rfl] at u7
                  have hl : (own_dg mm).length = 7 := own_dgLen 6 mm (Nat.lt_of_lt_of_le (show mm < 10000000 by omega) (by decide)) (Or.inr (Nat.le_trans (show 10 ^ 6 ≤ 1000000 by decide) (by omega)))
                  exact ⟨congrArg (fun z => some (Value.int z)) (by unfold own_sz; rw [hsd, List.length_append, hl]; rcases hsg with ⟨rfl, rfl⟩ | ⟨rfl, rfl⟩ <;> rfl), Nk13, rfl⟩
                · refine Good.back (fun _ k => XS.ifYes Xk13.here hx rfl (pc0 := 30) (pc' := 38) rfl (hb hby k16_2.2.1.2) rfl ((if0 _ _).trans (flt hc30_13).2.2.2) (by decide) (by decide) k) ?_
                  refine Good.back (Xk13.ldc2Long hx hown (mvT hZ (wd hw 272 rfl)) (g := (mkF m 38 (a_JsIJsI x0 dd (-10000000) 7) [])) rfl (hb hby k16_3.1.2.1)) ?_
                  refine Good.back (fun _ k => XS.lloadN Xk13.here hx rfl (hb hby k16_3.1.2.2) rfl k) ?_
                  refine Good.back (fun _ k => XS.lmul Xk13.here hx rfl (hb hby k16_3.2.1.1) rfl k) ?_
                  show Good p e below _ (Tk13.setTop (mkF m 43 (a_JsIJsI x0 dd (-10000000) 7) [.long ((10 : Int64) * (-10000000 : Int64))]))
                  rw [show (((10 : Int64) * (-10000000 : Int64)) : Int64) = (-100000000 : Int64) from by decide]
                  refine Good.back (fun _ k => XS.lstoreN Xk13.here hx rfl (hb hby k16_3.2.1.2) rfl (l' := (a_JsIJsI x0 dd (-100000000) 7)) rfl k) ?_
                  refine Good.back (fun _ k => XS.iinc Xk13.here hx rfl (hb hby k16_3.2.2.1) rfl (l' := (a_JsIJsI x0 dd (-100000000) ((7 : Int32) + (1 : Int32)))) rfl k) ?_
                  show Good p e below _ (Tk13.setTop (mkF m 47 (a_JsIJsI x0 dd (-100000000) ((7 : Int32) + (1 : Int32))) []))
                  rw [show (((7 : Int32) + (1 : Int32)) : Int32) = (8 : Int32) from by decide]
                  refine Good.back (fun _ k => XS.goto Xk13.here hx rfl (pc0 := 47) (pc' := 20) rfl (hb hby k16_3.2.2.2) (by decide) (by decide) k) ?_
                  show Good p e below _ (Tk13.setTop (mkF m 20 (a_JsIJsI x0 dd (-100000000) 8) []))
                  refine Good.back (fun _ k => XS.iload Xk13.here hx rfl (hb hby k16_1.2.2.2) rfl k) ?_
                  refine Good.back (fun _ k => XS.bipush Xk13.here hx rfl (hb hby k16_2.1.1.1) k) ?_
                  refine Good.back (fun _ k => XS.icmpNo Xk13.here hx rfl (hb hby k16_2.1.1.2) rfl (tlt (by decide : ((8 : Int32) < (19 : Int32)))).2.1 k) ?_
                  refine Good.back (fun _ k => XS.lloadN Xk13.here hx rfl (hb hby k16_2.1.2.1) rfl k) ?_
                  refine Good.back (fun _ k => XS.lloadN Xk13.here hx rfl (hb hby k16_2.1.2.2) rfl k) ?_
                  refine Good.back (fun _ k => XS.lcmp Xk13.here hx rfl (hb hby k16_2.2.1.1) rfl k) ?_
                  show Good p e below _ (Tk13.setTop (mkF m 30 (a_JsIJsI x0 dd (-100000000) 8) [.int (lcmpW x0 (-100000000 : Int64))]))
                  by_cases hc30_15 : (0 : Int32) < (lcmpW x0 (-100000000 : Int64))
                  · refine Good.back (fun _ k => XS.ifNo Xk13.here hx rfl (hb hby k16_2.2.1.2) rfl ((if0 _ _).trans (tlt hc30_15).2.2.2) k) ?_
                    refine Good.back (fun _ k => XS.iload Xk13.here hx rfl (hb hby k16_2.2.2.1) rfl k) ?_
                    refine Good.back (fun _ k => XS.iloadN Xk13.here hx rfl (hb hby k16_2.2.2.2) rfl k) ?_
                    refine Good.back (fun _ k => XS.iadd Xk13.here hx rfl (hb hby k16_3.1.1.1) rfl k) ?_
                    show Good p e below _ (Tk13.setTop (mkF m 37 (a_JsIJsI x0 dd (-100000000) 8) [.int ((8 : Int32) + dd)]))
                    obtain ⟨fs16, hr16, hrun16, hended16, hW16, hsame16⟩ := Xk13.leave (v := some (.int ((8 : Int32) + dd))) (fun h => by rw [Bd.returns] at h; cases h)
                    refine Good.done (retI Xk13 hx Bd.returns (hb hby k16_3.1.1.2) hr16) hrun16 hended16 ⟨_, _, rfl, ?_, ⟨_, rfl⟩, hW16, hsame16.mono (by decide) (by decide)⟩
                    show Q16 Z q0 h0 n0 _ Tk13.heap _
                    rw [ek13]
                    have w7 : ¬ ((-10000000 : Int64) < x0) := fun q => hc30_13 ((lw_gt _ _).mpr q)
                    rw [Int64.lt_iff_toInt_lt, hm, show ((-10000000 : Int64)).toInt = -10000000 from rfl] at w7
                    have u8 := (lw_gt _ _).mp hc30_15
                    rw [Int64.lt_iff_toInt_lt, hm, show ((-100000000 : Int64)).toInt = -100000000 from rfl] at u8
                    have hl : (own_dg mm).length = 8 := own_dgLen 7 mm (Nat.lt_of_lt_of_le (show mm < 100000000 by omega) (by decide)) (Or.inr (Nat.le_trans (show 10 ^ 7 ≤ 10000000 by decide) (by omega)))
                    exact ⟨congrArg (fun z => some (Value.int z)) (by unfold own_sz; rw [hsd, List.length_append, hl]; rcases hsg with ⟨rfl, rfl⟩ | ⟨rfl, rfl⟩ <;> rfl), Nk13, rfl⟩
                  · refine Good.back (fun _ k => XS.ifYes Xk13.here hx rfl (pc0 := 30) (pc' := 38) rfl (hb hby k16_2.2.1.2) rfl ((if0 _ _).trans (flt hc30_15).2.2.2) (by decide) (by decide) k) ?_
                    refine Good.back (Xk13.ldc2Long hx hown (mvT hZ (wd hw 272 rfl)) (g := (mkF m 38 (a_JsIJsI x0 dd (-100000000) 8) [])) rfl (hb hby k16_3.1.2.1)) ?_
                    refine Good.back (fun _ k => XS.lloadN Xk13.here hx rfl (hb hby k16_3.1.2.2) rfl k) ?_
                    refine Good.back (fun _ k => XS.lmul Xk13.here hx rfl (hb hby k16_3.2.1.1) rfl k) ?_
                    show Good p e below _ (Tk13.setTop (mkF m 43 (a_JsIJsI x0 dd (-100000000) 8) [.long ((10 : Int64) * (-100000000 : Int64))]))
                    rw [show (((10 : Int64) * (-100000000 : Int64)) : Int64) = (-1000000000 : Int64) from by decide]
                    refine Good.back (fun _ k => XS.lstoreN Xk13.here hx rfl (hb hby k16_3.2.1.2) rfl (l' := (a_JsIJsI x0 dd (-1000000000) 8)) rfl k) ?_
                    refine Good.back (fun _ k => XS.iinc Xk13.here hx rfl (hb hby k16_3.2.2.1) rfl (l' := (a_JsIJsI x0 dd (-1000000000) ((8 : Int32) + (1 : Int32)))) rfl k) ?_
                    show Good p e below _ (Tk13.setTop (mkF m 47 (a_JsIJsI x0 dd (-1000000000) ((8 : Int32) + (1 : Int32))) []))
                    rw [show (((8 : Int32) + (1 : Int32)) : Int32) = (9 : Int32) from by decide]
                    refine Good.back (fun _ k => XS.goto Xk13.here hx rfl (pc0 := 47) (pc' := 20) rfl (hb hby k16_3.2.2.2) (by decide) (by decide) k) ?_
                    show Good p e below _ (Tk13.setTop (mkF m 20 (a_JsIJsI x0 dd (-1000000000) 9) []))
                    refine Good.back (fun _ k => XS.iload Xk13.here hx rfl (hb hby k16_1.2.2.2) rfl k) ?_
                    refine Good.back (fun _ k => XS.bipush Xk13.here hx rfl (hb hby k16_2.1.1.1) k) ?_
                    refine Good.back (fun _ k => XS.icmpNo Xk13.here hx rfl (hb hby k16_2.1.1.2) rfl (tlt (by decide : ((9 : Int32) < (19 : Int32)))).2.1 k) ?_
                    refine Good.back (fun _ k => XS.lloadN Xk13.here hx rfl (hb hby k16_2.1.2.1) rfl k) ?_
                    refine Good.back (fun _ k => XS.lloadN Xk13.here hx rfl (hb hby k16_2.1.2.2) rfl k) ?_
                    refine Good.back (fun _ k => XS.lcmp Xk13.here hx rfl (hb hby k16_2.2.1.1) rfl k) ?_
                    show Good p e below _ (Tk13.setTop (mkF m 30 (a_JsIJsI x0 dd (-1000000000) 9) [.int (lcmpW x0 (-1000000000 : Int64))]))
                    by_cases hc30_17 : (0 : Int32) < (lcmpW x0 (-1000000000 : Int64))
                    · refine Good.back (fun _ k => XS.ifNo Xk13.here hx rfl (hb hby k16_2.2.1.2) rfl ((if0 _ _).trans (tlt hc30_17).2.2.2) k) ?_
                      refine Good.back (fun _ k => XS.iload Xk13.here hx rfl (hb hby k16_2.2.2.1) rfl k) ?_
                      refine Good.back (fun _ k => XS.iloadN Xk13.here hx rfl (hb hby k16_2.2.2.2) rfl k) ?_
                      refine Good.back (fun _ k => XS.iadd Xk13.here hx rfl (hb hby k16_3.1.1.1) rfl k) ?_
                      show Good p e below _ (Tk13.setTop (mkF m 37 (a_JsIJsI x0 dd (-1000000000) 9) [.int ((9 : Int32) + dd)]))
                      obtain ⟨fs18, hr18, hrun18, hended18, hW18, hsame18⟩ := Xk13.leave (v := some (.int ((9 : Int32) + dd))) (fun h => by rw [Bd.returns] at h; cases h)
                      refine Good.done (retI Xk13 hx Bd.returns (hb hby k16_3.1.1.2) hr18) hrun18 hended18 ⟨_, _, rfl, ?_, ⟨_, rfl⟩, hW18, hsame18.mono (by decide) (by decide)⟩
                      show Q16 Z q0 h0 n0 _ Tk13.heap _
                      rw [ek13]
                      have w8 : ¬ ((-100000000 : Int64) < x0) := fun q => hc30_15 ((lw_gt _ _).mpr q)
                      rw [Int64.lt_iff_toInt_lt, hm, show ((-100000000 : Int64)).toInt = -100000000 from rfl] at w8
                      have u9 := (lw_gt _ _).mp hc30_17
                      rw [Int64.lt_iff_toInt_lt, hm, show ((-1000000000 : Int64)).toInt = -1000000000 from rfl] at u9
                      have hl : (own_dg mm).length = 9 := own_dgLen 8 mm (Nat.lt_of_lt_of_le (show mm < 1000000000 by omega) (by decide)) (Or.inr (Nat.le_trans (show 10 ^ 8 ≤ 100000000 by decide) (by omega)))
                      exact ⟨congrArg (fun z => some (Value.int z)) (by unfold own_sz; rw [hsd, List.length_append, hl]; rcases hsg with ⟨rfl, rfl⟩ | ⟨rfl, rfl⟩ <;> rfl), Nk13, rfl⟩
                    · refine Good.back (fun _ k => XS.ifYes Xk13.here hx rfl (pc0 := 30) (pc' := 38) rfl (hb hby k16_2.2.1.2) rfl ((if0 _ _).trans (flt hc30_17).2.2.2) (by decide) (by decide) k) ?_
                      refine Good.back (Xk13.ldc2Long hx hown (mvT hZ (wd hw 272 rfl)) (g := (mkF m 38 (a_JsIJsI x0 dd (-1000000000) 9) [])) rfl (hb hby k16_3.1.2.1)) ?_
                      refine Good.back (fun _ k => XS.lloadN Xk13.here hx rfl (hb hby k16_3.1.2.2) rfl k) ?_
                      refine Good.back (fun _ k => XS.lmul Xk13.here hx rfl (hb hby k16_3.2.1.1) rfl k) ?_
                      show Good p e below _ (Tk13.setTop (mkF m 43 (a_JsIJsI x0 dd (-1000000000) 9) [.long ((10 : Int64) * (-1000000000 : Int64))]))
                      rw [show (((10 : Int64) * (-1000000000 : Int64)) : Int64) = (-10000000000 : Int64) from by decide]
                      refine Good.back (fun _ k => XS.lstoreN Xk13.here hx rfl (hb hby k16_3.2.1.2) rfl (l' := (a_JsIJsI x0 dd (-10000000000) 9)) rfl k) ?_
                      refine Good.back (fun _ k => XS.iinc Xk13.here hx rfl (hb hby k16_3.2.2.1) rfl (l' := (a_JsIJsI x0 dd (-10000000000) ((9 : Int32) + (1 : Int32)))) rfl k) ?_
                      show Good p e below _ (Tk13.setTop (mkF m 47 (a_JsIJsI x0 dd (-10000000000) ((9 : Int32) + (1 : Int32))) []))
                      rw [show (((9 : Int32) + (1 : Int32)) : Int32) = (10 : Int32) from by decide]
                      refine Good.back (fun _ k => XS.goto Xk13.here hx rfl (pc0 := 47) (pc' := 20) rfl (hb hby k16_3.2.2.2) (by decide) (by decide) k) ?_
                      show Good p e below _ (Tk13.setTop (mkF m 20 (a_JsIJsI x0 dd (-10000000000) 10) []))
                      refine Good.back (fun _ k => XS.iload Xk13.here hx rfl (hb hby k16_1.2.2.2) rfl k) ?_
                      refine Good.back (fun _ k => XS.bipush Xk13.here hx rfl (hb hby k16_2.1.1.1) k) ?_
                      refine Good.back (fun _ k => XS.icmpNo Xk13.here hx rfl (hb hby k16_2.1.1.2) rfl (tlt (by decide : ((10 : Int32) < (19 : Int32)))).2.1 k) ?_
                      refine Good.back (fun _ k => XS.lloadN Xk13.here hx rfl (hb hby k16_2.1.2.1) rfl k) ?_
                      refine Good.back (fun _ k => XS.lloadN Xk13.here hx rfl (hb hby k16_2.1.2.2) rfl k) ?_
                      refine Good.back (fun _ k => XS.lcmp Xk13.here hx rfl (hb hby k16_2.2.1.1) rfl k) ?_
                      show Good p e below _ (Tk13.setTop (mkF m 30 (a_JsIJsI x0 dd (-10000000000) 10) [.int (lcmpW x0 (-10000000000 : Int64))]))
                      refine Good.back (fun _ k => XS.ifNo Xk13.here hx rfl (hb hby k16_2.2.1.2) rfl ((if0 _ _).trans (tlt ((lw_gt _ _).mpr (by rw [Int64.lt_iff_toInt_lt, hm, show ((-10000000000 : Int64)).toInt = -10000000000 from rfl]; omega))).2.2.2) k) ?_
                      refine Good.back (fun _ k => XS.iload Xk13.here hx rfl (hb hby k16_2.2.2.1) rfl k) ?_
                      refine Good.back (fun _ k => XS.iloadN Xk13.here hx rfl (hb hby k16_2.2.2.2) rfl k) ?_
                      refine Good.back (fun _ k => XS.iadd Xk13.here hx rfl (hb hby k16_3.1.1.1) rfl k) ?_
                      show Good p e below _ (Tk13.setTop (mkF m 37 (a_JsIJsI x0 dd (-10000000000) 10) [.int ((10 : Int32) + dd)]))
                      obtain ⟨fs19, hr19, hrun19, hended19, hW19, hsame19⟩ := Xk13.leave (v := some (.int ((10 : Int32) + dd))) (fun h => by rw [Bd.returns] at h; cases h)
                      refine Good.done (retI Xk13 hx Bd.returns (hb hby k16_3.1.1.2) hr19) hrun19 hended19 ⟨_, _, rfl, ?_, ⟨_, rfl⟩, hW19, hsame19.mono (by decide) (by decide)⟩
                      show Q16 Z q0 h0 n0 _ Tk13.heap _
                      rw [ek13]
                      have w9 : ¬ ((-1000000000 : Int64) < x0) := fun q => hc30_17 ((lw_gt _ _).mpr q)
                      rw [Int64.lt_iff_toInt_lt, hm, show ((-1000000000 : Int64)).toInt = -1000000000 from rfl] at w9
                      have hl : (own_dg mm).length = 10 := own_dgLen 9 mm (Nat.lt_of_lt_of_le (show mm < 10000000000 by omega) (by decide)) (Or.inr (Nat.le_trans (show 10 ^ 9 ≤ 1000000000 by decide) (by omega)))
                      exact ⟨congrArg (fun z => some (Value.int z)) (by unfold own_sz; rw [hsd, List.length_append, hl]; rcases hsg with ⟨rfl, rfl⟩ | ⟨rfl, rfl⟩ <;> rfl), Nk13, rfl⟩
  show Good p e below _ (s₁.setTop (mkF m 2 (a_JsIu3 q0 1) []))
  refine Good.back (fun _ k => XS.lloadN X0.here hx rfl (hb hby k16_0.1.2.1) rfl k) ?_
  refine Good.back (fun _ k => XS.lconst X0.here hx rfl (hb hby k16_0.1.2.2) k) ?_
  refine Good.back (fun _ k => XS.lcmp X0.here hx rfl (hb hby k16_0.2.1.1) rfl k) ?_
  by_cases hc5_20 : (lcmpW q0 (0 : Int64)) < (0 : Int32)
  · refine Good.back (fun _ k => XS.ifYes X0.here hx rfl (pc0 := 5) (pc' := 13) rfl (hb hby k16_0.2.1.2) rfl ((if0 _ _).trans (tlt hc5_20).1) (by decide) (by decide) k) ?_
    show Good p e below _ (s₁.setTop (mkF m 13 (a_JsIu3 q0 1) []))
    exact key13 q0 (1 : Int32) [45] (-q0.toInt).toNat _ _ X0 N0 e0 (by have := own_lneg0 hc5_20; omega) (by omega) (Or.inr ⟨rfl, rfl⟩) (own_sdN (own_lneg0 hc5_20) (by have := own_lneg0 hc5_20; omega))
  · refine Good.back (fun _ k => XS.ifNo X0.here hx rfl (hb hby k16_0.2.1.2) rfl ((if0 _ _).trans (flt hc5_20).1) k) ?_
    refine Good.back (fun _ k => XS.iconst X0.here hx rfl (hb hby k16_0.2.2.1) k) ?_
    refine Good.back (fun _ k => XS.istoreN X0.here hx rfl (hb hby k16_0.2.2.2) rfl (l' := (a_JsIu3 q0 0)) rfl k) ?_
    show Good p e below _ (s₁.setTop (mkF m 10 (a_JsIu3 q0 0) []))
    refine Good.back (fun _ k => XS.lloadN X0.here hx rfl (hb hby k16_1.1.1.1) rfl k) ?_
    refine Good.back (fun _ k => XS.lneg X0.here hx rfl (hb hby k16_1.1.1.2) rfl k) ?_
    refine Good.back (fun _ k => XS.lstoreN X0.here hx rfl (hb hby k16_1.1.2.1) rfl (l' := (a_JsIu3 (-q0) 0)) rfl k) ?_
    show Good p e below _ (s₁.setTop (mkF m 13 (a_JsIu3 (-q0) 0) []))
    exact key13 (-q0) (0 : Int32) [] q0.toInt.toNat _ _ X0 N0 e0 ((own_lnegM hc5_20 hv.2).2) (by omega) (Or.inl ⟨rfl, rfl⟩) (own_sdP (by have := (own_lnegM hc5_20 hv.2).1; omega))
abbrev B18 := jdk_35_method_14_code
theorem k18_0 : ((own_A B18 0 (.iload_n 2) 1 ∧ own_A B18 1 (.istore 7) 2) ∧ own_A B18 3 (.lload_n 0) 1 ∧ own_A B18 4 (.lconst 0) 1) ∧ (own_A B18 5 .lcmp 1 ∧ own_A B18 6 (.ifCond .ge 7) 3) ∧ own_A B18 9 (.iconst 1) 1 ∧ own_A B18 10 (.goto 4) 3 := by decide +kernel
theorem k18_1 : ((own_A B18 13 (.iconst 0) 1 ∧ own_A B18 14 (.istore 8) 2) ∧ own_A B18 16 (.iload 8) 2 ∧ own_A B18 18 (.ifCond .ne 6) 3) ∧ (own_A B18 21 (.lload_n 0) 1 ∧ own_A B18 22 .lneg 1) ∧ own_A B18 23 (.lstore_n 0) 1 ∧ own_A B18 24 (.lload_n 0) 1 := by decide +kernel
theorem k18_2 : ((own_A B18 25 (.ldc2_w 129) 3 ∧ own_A B18 28 .lcmp 1) ∧ own_A B18 29 (.ifCond .gt 53) 3 ∧ own_A B18 32 (.lload_n 0) 1) ∧ (own_A B18 33 (.ldc2_w 131) 3 ∧ own_A B18 36 .ldiv 1) ∧ own_A B18 37 (.lstore 4) 2 ∧ own_A B18 39 (.lload 4) 2 := by decide +kernel
theorem k18_3 : ((own_A B18 41 (.ldc2_w 131) 3 ∧ own_A B18 44 .lmul 1) ∧ own_A B18 45 (.lload_n 0) 1 ∧ own_A B18 46 .lsub 1) ∧ (own_A B18 47 .l2i 1 ∧ own_A B18 48 (.istore 6) 2) ∧ own_A B18 50 (.lload 4) 2 ∧ own_A B18 52 (.lstore_n 0) 1 := by decide +kernel
theorem k18_4 : ((own_A B18 53 (.aload_n 3) 1 ∧ own_A B18 54 (.iinc 7 (-1)) 3) ∧ own_A B18 57 (.iload 7) 2 ∧ own_A B18 59 (.getstatic 133) 3) ∧ (own_A B18 62 (.iload 6) 2 ∧ own_A B18 64 .baload 1) ∧ own_A B18 65 .bastore 1 ∧ own_A B18 66 (.aload_n 3) 1 := by decide +kernel
theorem k18_5 : ((own_A B18 67 (.iinc 7 (-1)) 3 ∧ own_A B18 70 (.iload 7) 2) ∧ own_A B18 72 (.getstatic 137) 3 ∧ own_A B18 75 (.iload 6) 2) ∧ (own_A B18 77 .baload 1 ∧ own_A B18 78 .bastore 1) ∧ own_A B18 79 (.goto (-55)) 3 ∧ own_A B18 82 (.lload_n 0) 1 := by decide +kernel
theorem k18_6 : ((own_A B18 83 .l2i 1 ∧ own_A B18 84 (.istore 10) 2) ∧ own_A B18 86 (.iload 10) 2 ∧ own_A B18 88 (.bipush (-100)) 2) ∧ (own_A B18 90 (.if_icmp .gt 53) 3 ∧ own_A B18 93 (.iload 10) 2) ∧ own_A B18 95 (.bipush 100) 2 ∧ own_A B18 97 .idiv 1 := by decide +kernel
theorem k18_7 : ((own_A B18 98 (.istore 9) 2 ∧ own_A B18 100 (.iload 9) 2) ∧ own_A B18 102 (.bipush 100) 2 ∧ own_A B18 104 .imul 1) ∧ (own_A B18 105 (.iload 10) 2 ∧ own_A B18 107 .isub 1) ∧ own_A B18 108 (.istore 6) 2 ∧ own_A B18 110 (.iload 9) 2 := by decide +kernel
theorem k18_8 : ((own_A B18 112 (.istore 10) 2 ∧ own_A B18 114 (.aload_n 3) 1) ∧ own_A B18 115 (.iinc 7 (-1)) 3 ∧ own_A B18 118 (.iload 7) 2) ∧ (own_A B18 120 (.getstatic 133) 3 ∧ own_A B18 123 (.iload 6) 2) ∧ own_A B18 125 .baload 1 ∧ own_A B18 126 .bastore 1 := by decide +kernel
theorem k18_9 : ((own_A B18 127 (.aload_n 3) 1 ∧ own_A B18 128 (.iinc 7 (-1)) 3) ∧ own_A B18 131 (.iload 7) 2 ∧ own_A B18 133 (.getstatic 137) 3) ∧ (own_A B18 136 (.iload 6) 2 ∧ own_A B18 138 .baload 1) ∧ own_A B18 139 .bastore 1 ∧ own_A B18 140 (.goto (-54)) 3 := by decide +kernel
theorem k18_10 : ((own_A B18 143 (.aload_n 3) 1 ∧ own_A B18 144 (.iinc 7 (-1)) 3) ∧ own_A B18 147 (.iload 7) 2 ∧ own_A B18 149 (.getstatic 133) 3) ∧ (own_A B18 152 (.iload 10) 2 ∧ own_A B18 154 .ineg 1) ∧ own_A B18 155 .baload 1 ∧ own_A B18 156 .bastore 1 := by decide +kernel
theorem k18_11 : ((own_A B18 157 (.iload 10) 2 ∧ own_A B18 159 (.bipush (-9)) 2) ∧ own_A B18 161 (.if_icmp .ge 17) 3 ∧ own_A B18 164 (.aload_n 3) 1) ∧ (own_A B18 165 (.iinc 7 (-1)) 3 ∧ own_A B18 168 (.iload 7) 2) ∧ own_A B18 170 (.getstatic 137) 3 ∧ own_A B18 173 (.iload 10) 2 := by decide +kernel
theorem k18_12 : ((own_A B18 175 .ineg 1 ∧ own_A B18 176 .baload 1) ∧ own_A B18 177 .bastore 1 ∧ own_A B18 178 (.iload 8) 2) ∧ (own_A B18 180 (.ifCond .eq 12) 3 ∧ own_A B18 183 (.aload_n 3) 1) ∧ own_A B18 184 (.iinc 7 (-1)) 3 ∧ own_A B18 187 (.iload 7) 2 := by decide +kernel
theorem k18_13 : (own_A B18 189 (.bipush 45) 2 ∧ own_A B18 191 .bastore 1) ∧ own_A B18 192 (.iload 7) 2 ∧ own_A B18 194 .ireturn 1 := by decide +kernel
theorem own_ef_18 (m : MethodId) (x0 : Int64) (x1 : Int32) (x2 : Addr) : entryFrame m #[(.long x0), (.int x1), (.ref x2)] 11 = mkF m 0 #[.val (.long x0), .second, .val (.int x1), .val (.ref x2), .unset, .unset, .unset, .unset, .unset, .unset, .unset] [] := by first | (simp [entryFrame, mkF, argsToLocals, Value.category]; done) | rfl
def Q18 (Z : State) (q0 : Int64) (p1 : Int32) (ar : Addr) (kk : ClassId) (zc : Int32) (bs : List Int32) (d1 : Addr) (d2 : Addr) (kd1 : ClassId) (kd2 : ClassId) (h0 : Heap) (n0 : Nat) (v : Option Value) (h : Heap) (L : List Loc) : Prop := ∃ (rv : Int32), v = some (.int rv) ∧ Fr n0 L ∧ Keep h0 h [ar] ∧ Arv Z h ar kk .byte zc (own_v (bs ++ own_sd q0)) (.int 0)
set_option maxRecDepth 65536 in
set_option maxHeartbeats 40000000 in
theorem rm18 (l : Launch) (Z : State) (a0 : Array Value) (hw : ∀ d ∈ tables_1, d.before a0 Z = true) (ws : List Jvm.Cond) (q0 : Int64) (p1 : Int32) (ar : Addr) (kk : ClassId) (zc : Int32) (bs : List Int32) (d1 : Addr) (d2 : Addr) (kd1 : ClassId) (kd2 : ClassId) (h0 : Heap) (n0 : Nat) (Z0 : n0 ≤ h0.size) (Va : Arv Z h0 ar kk .byte zc (own_v bs) (.int 0)) (ga : n0 ≤ ar) (hv : -4294967296 ≤ q0.toInt ∧ q0.toInt ≤ 4294967296) (hp : p1.toInt = ((bs.length + (own_sd q0).length : Nat) : Int)) (hft : ((bs.length + (own_sd q0).length : Nat) : Int) ≤ zc.toInt) (S_d1 : Sta Z h0 "java/lang/Integer" "DigitOnes" "[B" (.ref d1)) (S_d2 : Sta Z h0 "java/lang/Integer" "DigitTens" "[B" (.ref d2)) (V_d1 : Arv Z h0 d1 kd1 .byte (100 : Int32) own_ones (.int 0)) (V_d2 : Arv Z h0 d2 kd2 .byte (100 : Int32) own_tens (.int 0)) (nd1 : d1 ≠ ar) (nd2 : d2 ≠ ar) :
    MetFree l y_14 (head1 (Jvm.Cond.code y_14 jdk_35_method_14_code 11 (some .int) :: ws) R_0) (fun a U => a = #[(.long q0), (.int p1), (.ref ar)] ∧ Z.Warmed39 U.vm ∧ U.heap = h0) (fun _ _ _ _ _ => True) (fun _ U o U' => ∃ v L, o = .returned v ∧ Q18 Z q0 p1 ar kk zc bs d1 d2 kd1 kd2 h0 n0 v U'.heap L ∧ FrameEnd U o U' L R_0.cells R_0.slots) := by
  refine MetFree.of_bodySF (plainFor_of_name own_pn5) hisR ?_
  intro p e s m args below meth c s₁ Bd hml0 hP hK
  obtain ⟨rfl, hZ, hh⟩ := hP
  have hx := Bd.exec
  have hby := Bd.bytes
  have hml : c.maxLocals = 11 := hml0
  have hown : s.vm.findClass "java/lang/Long" = some m.cls := findClass_of_methodNamed Bd.named
  have hnm := (name_of_methodNamed Bd.named Bd.method).1
  have X0 : Stand p l e R_0 s m #[(.long q0), (.int p1), (.ref ar)] below meth c s₁ [] 0 0 := Stand.of_body Bd
  have e0 : s₁.heap = h0 := by rw [← hh, Bd.state]; rfl
  have N0 := Fr.nil n0
  have KR : Keep h0 h0 [ar] := Keep.refl h0 _
  show Good p e below (fun o U' => ∃ v L, o = .returned v ∧ Q18 Z q0 p1 ar kk zc bs d1 d2 kd1 kd2 h0 n0 v U'.heap L ∧ FrameEnd s o U' L R_0.cells R_0.slots) _
  refine Good.back (S' := s₁.setTop (mkF m 0 #[.val (.long q0), .second, .val (.int p1), .val (.ref ar), .unset, .unset, .unset, .unset, .unset, .unset, .unset] [])) (fun t k => castTop (own_ef_18 m q0 p1 ar) k) ?_
  have f_1 : Arv Z h0 ar kk .byte zc (own_buf bs (own_sd q0).length []) (.int 0) := Va.pad (own_bufPad bs _)
  show Good p e below _ (s₁.setTop (mkF m 0 (a_JsIRu7 q0 p1 ar) []))
  refine Good.back (fun _ k => XS.iloadN X0.here hx rfl (hb hby k18_0.1.1.1) rfl k) ?_
  refine Good.back (fun _ k => XS.istore X0.here hx rfl (hb hby k18_0.1.1.2) rfl (l' := (a_JsIRu3Iu3 q0 p1 ar p1)) rfl k) ?_
  show Good p e below _ (s₁.setTop (mkF m 3 (a_JsIRu3Iu3 q0 p1 ar p1) []))
  have key143 : ∀ (x1 : Int64) (sl4 : Slot) (sl5 : Slot) (sl6 : Slot) (sl9 : Slot) (j0 : Int32) (fl : Int32) (sg : List Int32) (m0 : Nat) (rk : Nat) (tk : List Int32) (c0 : Int32) (Hk143 : Heap) (Tk143 : State) (lk143 : List Loc) (Xk143 : Stand p l e R_0 s m #[(.long q0), (.int p1), (.ref ar)] below meth c Tk143 lk143 0 0) (Nk143 : Fr n0 lk143) (ek143 : Tk143.heap = Hk143) (Zk143 : n0 ≤ Hk143.size) (Kk143 : Keep h0 Hk143 [ar]) (Vk143 : Arv Z Hk143 ar kk .byte zc (own_buf bs rk tk) (.int 0)) (Sa143 : Sta Z Hk143 "java/lang/Integer" "DigitOnes" "[B" (.ref d1)) (Sb143 : Sta Z Hk143 "java/lang/Integer" "DigitTens" "[B" (.ref d2)) (Va143 : Arv Z Hk143 d1 kd1 .byte (100 : Int32) own_ones (.int 0)) (Vb143 : Arv Z Hk143 d2 kd2 .byte (100 : Int32) own_tens (.int 0)) (hsg : (fl = 0 ∧ sg = []) ∨ (fl = 1 ∧ sg = [45])) (hI0 : own_sd q0 = sg ++ (own_dg m0 ++ tk)) (hR : rk = sg.length + (own_dg m0).length) (hRL : ((bs.length + rk : Nat) : Int) ≤ zc.toInt) (hc0 : c0.toInt = ((bs.length + rk : Nat) : Int)) (hj0 : j0.toInt = -(m0 : Int)) (hm0 : m0 < 100), Good p e below (fun o U' => ∃ v L, o = .returned v ∧ Q18 Z q0 p1 ar kk zc bs d1 d2 kd1 kd2 h0 n0 v U'.heap L ∧ FrameEnd s o U' L R_0.cells R_0.slots) (Tk143.setTop (mkF m 143 (a_JsIRS3IISI x1 p1 ar sl4 sl5 sl6 c0 fl sl9 j0) [])) := by
    intro x1 sl4 sl5 sl6 sl9 j0 fl sg m0 rk tk c0 Hk143 Tk143 lk143 Xk143 Nk143 ek143 Zk143 Kk143 Vk143 Sa143 Sb143 Va143 Vb143 hsg hI0 hR hRL hc0 hj0 hm0
    refine Good.back (fun _ k => XS.aloadN Xk143.here hx rfl (hb hby k18_10.1.1.1) rfl rfl k) ?_
    have hP0 := own_dgPos m0
    show Good p e below _ (Tk143.setTop (mkF m 144 (a_JsIRS3IISI x1 p1 ar sl4 sl5 sl6 c0 fl sl9 j0) [.ref ar]))
    refine Good.back (fun _ k => XS.iinc Xk143.here hx rfl (hb hby k18_10.1.1.2) rfl (l' := (a_JsIRS3IISI x1 p1 ar sl4 sl5 sl6 (c0 + (-1 : Int32)) fl sl9 j0)) rfl k) ?_
    show Good p e below _ (Tk143.setTop (mkF m 147 (a_JsIRS3IISI x1 p1 ar sl4 sl5 sl6 (c0 + (-1 : Int32)) fl sl9 j0) [.ref ar]))
    have hc2 := own_dec hc0 (by omega)
    obtain ⟨c2, ec2⟩ : ∃ z, z = (c0 + (-1 : Int32)) := ⟨_, rfl⟩
    rw [← ec2] at hc2 ⊢
    show Good p e below _ (Tk143.setTop (mkF m 147 (a_JsIRS3IISI x1 p1 ar sl4 sl5 sl6 c2 fl sl9 j0) [.ref ar]))
    refine Good.back (fun _ k => XS.iload Xk143.here hx rfl (hb hby k18_10.1.2.1) rfl k) ?_
    obtain ⟨T3, X3, e3, st3⟩ := getS2 Xk143 hx hZ hown (host := "") (Or.inl (wd hw 117 rfl)) Via.refl ek143 Sa143 (g := (mkF m 149 (a_JsIRS3IISI x1 p1 ar sl4 sl5 sl6 c2 fl sl9 j0) [.int c2, .ref ar])) rfl (hb hby k18_10.1.2.2)
    refine Good.back st3 ?_
    refine Good.back (fun _ k => XS.iload X3.here hx rfl (hb hby k18_10.2.1.1) rfl k) ?_
    refine Good.back (fun _ k => XS.ineg X3.here hx rfl (hb hby k18_10.2.1.2) rfl k) ?_
    have hn4 := own_neg hj0 (by omega)
    show Good p e below _ (T3.setTop (mkF m 155 (a_JsIRS3IISI x1 p1 ar sl4 sl5 sl6 c2 fl sl9 j0) [.int (-j0), .ref d1, .int c2, .ref ar]))
    obtain ⟨nn4, en4⟩ : ∃ z, z = (-j0) := ⟨_, rfl⟩
    rw [← en4] at hn4 ⊢
    have hnN4 : nn4.toNatClampNeg = m0 := by have := own_nat (z := nn4) (by omega); omega
    show Good p e below _ (T3.setTop (mkF m 155 (a_JsIRS3IISI x1 p1 ar sl4 sl5 sl6 c2 fl sl9 j0) [.int nn4, .ref d1, .int c2, .ref ar]))
    have fc5 := Va143
    obtain ⟨cl5, Ar5, qk5, S5, N5', H5, G5⟩ := fc5
    have hin5 : ¬ (nn4 < 0 ∨ cl5.slots.size ≤ (nn4).toNatClampNeg) := inb_of S5 ⟨own_lt (by rw [show (0 : Int32).toInt = 0 from rfl]; omega), own_lt' (by rw [show (100 : Int32).toInt = 100 from rfl]; omega)⟩
    have hat5 : cl5.slots[(nn4).toNatClampNeg]? = some (.int (Int32.ofNat (48 + m0 % 10))) := Has.at H5 hin5 (by rw [hnN4]; exact own_onesAt (by omega) _)
    refine Good.back (X3.baloadBytes hx (j := nn4) (v := (.int (Int32.ofNat (48 + m0 % 10)))) (by rw [e3]; exact Ar5.1) (State.isArrayOf_alike hZ.alike Ar5.2.1) Ar5.2.2 hin5 hat5 (g := (mkF m 155 (a_JsIRS3IISI x1 p1 ar sl4 sl5 sl6 c2 fl sl9 j0) [.int nn4, .ref d1, .int c2, .ref ar])) rfl rfl (hb hby k18_10.2.2.1)) ?_
    have fc6 := Vk143
    obtain ⟨cl6, Ar6, qk6, S6, N6', H6, G6⟩ := fc6
    have hin6 : ¬ (c2 < 0 ∨ cl6.slots.size ≤ (c2).toNatClampNeg) := inb_of S6 ⟨own_lt (by rw [show (0 : Int32).toInt = 0 from rfl]; omega), own_lt' (by omega)⟩
    obtain ⟨T6, h6, X6, e6, W6, st6⟩ := stB X3 hx hZ e3 Ar6 (j := c2) hin6 (g := (mkF m 156 (a_JsIRS3IISI x1 p1 ar sl4 sl5 sl6 c2 fl sl9 j0) [.int (Int32.ofNat (48 + m0 % 10)), .int c2, .ref ar])) rfl rfl (hb hby k18_10.2.2.2)
    refine Good.back st6 ?_
    have f_7 : Arv Z h6 ar kk .byte zc (own_buf bs (rk - 1) ((Int32.ofNat (48 + m0 % 10)) :: tk)) (.int 0) := (by have q := Arv.set Ar6 qk6 S6 N6' H6 G6 (fits_nar_byte _) W6 (bs.length + (rk - 1)) (by have := own_nat (z := c2) (by omega); omega) (by rw [own_bufLen]; omega); rw [own_b (by omega), own_st (r := rk - 1) (by omega) rfl] at q; exact q)
    have N6 := Fr.snoc X6 Nk143 ga
    have Z8 : n0 ≤ h6.size := Nat.le_trans Zk143 (Keep.of_wr W6).1
    have K9 : Keep h0 h6 [ar] := Kk143.wr W6 (Or.inl (List.mem_of_getElem? (i := 0) rfl))
    refine Good.back (fun _ k => XS.iload X6.here hx rfl (hb hby k18_11.1.1.1) rfl k) ?_
    refine Good.back (fun _ k => XS.bipush X6.here hx rfl (hb hby k18_11.1.1.2) k) ?_
    by_cases hc161_10 : j0 < (-9 : Int32)
    · refine Good.back (fun _ k => XS.icmpNo X6.here hx rfl (hb hby k18_11.1.2.1) rfl (tlt hc161_10).2.1 k) ?_
      have v11 : 10 ≤ m0 := by have q := hc161_10; rw [Int32.lt_iff_toInt_lt, show (-9 : Int32).toInt = -9 from rfl] at q; omega
      have hl11 : (own_dg m0).length = 2 := by rw [own_dg2 v11 (by omega)]; rfl
      show Good p e below _ (T6.setTop (mkF m 164 (a_JsIRS3IISI x1 p1 ar sl4 sl5 sl6 c2 fl sl9 j0) []))
      refine Good.back (fun _ k => XS.aloadN X6.here hx rfl (hb hby k18_11.1.2.2) rfl rfl k) ?_
      refine Good.back (fun _ k => XS.iinc X6.here hx rfl (hb hby k18_11.2.1.1) rfl (l' := (a_JsIRS3IISI x1 p1 ar sl4 sl5 sl6 (c2 + (-1 : Int32)) fl sl9 j0)) rfl k) ?_
      show Good p e below _ (T6.setTop (mkF m 168 (a_JsIRS3IISI x1 p1 ar sl4 sl5 sl6 (c2 + (-1 : Int32)) fl sl9 j0) [.ref ar]))
      have hc12 := own_dec hc2 (by omega)
      obtain ⟨c12, ec12⟩ : ∃ z, z = (c2 + (-1 : Int32)) := ⟨_, rfl⟩
      rw [← ec12] at hc12 ⊢
      show Good p e below _ (T6.setTop (mkF m 168 (a_JsIRS3IISI x1 p1 ar sl4 sl5 sl6 c12 fl sl9 j0) [.ref ar]))
      refine Good.back (fun _ k => XS.iload X6.here hx rfl (hb hby k18_11.2.1.2) rfl k) ?_
      have f_13 : Sta Z h6 "java/lang/Integer" "DigitTens" "[B" (.ref d2) := Sta.wr W6 Sb143
      obtain ⟨T14, X14, e14, st14⟩ := getS2 X6 hx hZ hown (host := "") (Or.inl (wd hw 273 rfl)) Via.refl e6 f_13 (g := (mkF m 170 (a_JsIRS3IISI x1 p1 ar sl4 sl5 sl6 c12 fl sl9 j0) [.int c12, .ref ar])) rfl (hb hby k18_11.2.2.1)
      refine Good.back st14 ?_
      refine Good.back (fun _ k => XS.iload X14.here hx rfl (hb hby k18_11.2.2.2) rfl k) ?_
      refine Good.back (fun _ k => XS.ineg X14.here hx rfl (hb hby k18_12.1.1.1) rfl k) ?_
      have hn15 := own_neg hj0 (by omega)
      show Good p e below _ (T14.setTop (mkF m 176 (a_JsIRS3IISI x1 p1 ar sl4 sl5 sl6 c12 fl sl9 j0) [.int (-j0), .ref d2, .int c12, .ref ar]))
      obtain ⟨nn15, en15⟩ : ∃ z, z = (-j0) := ⟨_, rfl⟩
      rw [← en15] at hn15 ⊢
      have hnN15 : nn15.toNatClampNeg = m0 := by have := own_nat (z := nn15) (by omega); omega
      show Good p e below _ (T14.setTop (mkF m 176 (a_JsIRS3IISI x1 p1 ar sl4 sl5 sl6 c12 fl sl9 j0) [.int nn15, .ref d2, .int c12, .ref ar]))
      have f_16 : Arv Z h6 d2 kd2 .byte (100 : Int32) own_tens (.int 0) := Arv.other Vb143 W6 nd2
      have fc17 := f_16
      obtain ⟨cl17, Ar17, qk17, S17, N17', H17, G17⟩ := fc17
      have hin17 : ¬ (nn15 < 0 ∨ cl17.slots.size ≤ (nn15).toNatClampNeg) := inb_of S17 ⟨own_lt (by rw [show (0 : Int32).toInt = 0 from rfl]; omega), own_lt' (by rw [show (100 : Int32).toInt = 100 from rfl]; omega)⟩
      have hat17 : cl17.slots[(nn15).toNatClampNeg]? = some (.int (Int32.ofNat (48 + m0 / 10))) := Has.at H17 hin17 (by rw [hnN15]; exact own_tensAt (by omega) _)
      refine Good.back (X14.baloadBytes hx (j := nn15) (v := (.int (Int32.ofNat (48 + m0 / 10)))) (by rw [e14]; exact Ar17.1) (State.isArrayOf_alike hZ.alike Ar17.2.1) Ar17.2.2 hin17 hat17 (g := (mkF m 176 (a_JsIRS3IISI x1 p1 ar sl4 sl5 sl6 c12 fl sl9 j0) [.int nn15, .ref d2, .int c12, .ref ar])) rfl rfl (hb hby k18_12.1.1.2)) ?_
      have fc18 := f_7
      obtain ⟨cl18, Ar18, qk18, S18, N18', H18, G18⟩ := fc18
      have hin18 : ¬ (c12 < 0 ∨ cl18.slots.size ≤ (c12).toNatClampNeg) := inb_of S18 ⟨own_lt (by rw [show (0 : Int32).toInt = 0 from rfl]; omega), own_lt' (by omega)⟩
      obtain ⟨T18, h18, X18, e18, W18, st18⟩ := stB X14 hx hZ e14 Ar18 (j := c12) hin18 (g := (mkF m 177 (a_JsIRS3IISI x1 p1 ar sl4 sl5 sl6 c12 fl sl9 j0) [.int (Int32.ofNat (48 + m0 / 10)), .int c12, .ref ar])) rfl rfl (hb hby k18_12.1.2.1)
      refine Good.back st18 ?_
      have f_19 : Arv Z h18 ar kk .byte zc (own_buf bs (rk - 2) ((Int32.ofNat (48 + m0 / 10)) :: ((Int32.ofNat (48 + m0 % 10)) :: tk))) (.int 0) := (by have q := Arv.set Ar18 qk18 S18 N18' H18 G18 (fits_nar_byte _) W18 (bs.length + (rk - 2)) (by have := own_nat (z := c12) (by omega); omega) (by rw [own_bufLen]; omega); rw [own_b (by omega), own_st (r := rk - 2) (by omega) rfl] at q; exact q)
      have N18 := Fr.snoc X18 N6 ga
      have Z20 : n0 ≤ h18.size := Nat.le_trans Z8 (Keep.of_wr W18).1
      have K21 : Keep h0 h18 [ar] := K9.wr W18 (Or.inl (List.mem_of_getElem? (i := 0) rfl))
      have hD22 : own_sd q0 = sg ++ ((Int32.ofNat (48 + m0 / 10)) :: ((Int32.ofNat (48 + m0 % 10)) :: tk)) := by rw [hI0, own_dg2 v11 (by omega)]; simp
      show Good p e below _ (T18.setTop (mkF m 178 (a_JsIRS3IISI x1 p1 ar sl4 sl5 sl6 c12 fl sl9 j0) []))
      rcases hsg with ⟨rfl, rfl⟩ | ⟨rfl, rfl⟩
      · have hK22' : rk = 2 := by rw [hR]; simp; omega
        refine Good.back (fun _ k => XS.iload X18.here hx rfl (hb hby k18_12.1.2.2) rfl k) ?_
        refine Good.back (fun _ k => XS.ifYes X18.here hx rfl (pc0 := 180) (pc' := 192) rfl (hb hby k18_12.2.1.1) rfl ((if0 _ _).trans (teq (by decide : ((0 : Int32) = (0 : Int32)))).1) (by decide) (by decide) k) ?_
        refine Good.back (fun _ k => XS.iload X18.here hx rfl (hb hby k18_13.2.1) rfl k) ?_
        show Good p e below _ (T18.setTop (mkF m 194 (a_JsIRS3IISI x1 p1 ar sl4 sl5 sl6 c12 0 sl9 j0) [.int c12]))
        obtain ⟨fs23, hr23, hrun23, hended23, hW23, hsame23⟩ := X18.leave (v := some (.int c12)) (fun h => by rw [Bd.returns] at h; cases h)
        refine Good.done (retI X18 hx Bd.returns (hb hby k18_13.2.2) hr23) hrun23 hended23 ⟨_, _, rfl, ?_, ⟨_, rfl⟩, hW23, hsame23.mono (by decide) (by decide)⟩
        show Q18 Z q0 p1 ar kk zc bs d1 d2 kd1 kd2 h0 n0 _ T18.heap _
        rw [e18]
        have hT : own_sd q0 = ((Int32.ofNat (48 + m0 / 10)) :: ((Int32.ofNat (48 + m0 % 10)) :: tk)) := by rw [hD22]; rfl
        refine ⟨_, rfl, N18, K21, ?_⟩
        have q := f_19
        rw [show rk - 2 = 0 by omega, own_buf0, ← hT] at q
        exact q
      · have hK22' : rk = 3 := by rw [hR]; simp; omega
        refine Good.back (fun _ k => XS.iload X18.here hx rfl (hb hby k18_12.1.2.2) rfl k) ?_
        refine Good.back (fun _ k => XS.ifNo X18.here hx rfl (hb hby k18_12.2.1.1) rfl ((if0 _ _).trans (feq (by decide : ¬ ((1 : Int32) = (0 : Int32)))).1) k) ?_
        refine Good.back (fun _ k => XS.aloadN X18.here hx rfl (hb hby k18_12.2.1.2) rfl rfl k) ?_
        refine Good.back (fun _ k => XS.iinc X18.here hx rfl (hb hby k18_12.2.2.1) rfl (l' := (a_JsIRS3IISI x1 p1 ar sl4 sl5 sl6 (c12 + (-1 : Int32)) 1 sl9 j0)) rfl k) ?_
        show Good p e below _ (T18.setTop (mkF m 187 (a_JsIRS3IISI x1 p1 ar sl4 sl5 sl6 (c12 + (-1 : Int32)) 1 sl9 j0) [.ref ar]))
        have hc24 := own_dec hc12 (by omega)
        obtain ⟨c24, ec24⟩ : ∃ z, z = (c12 + (-1 : Int32)) := ⟨_, rfl⟩
        rw [← ec24] at hc24 ⊢
        show Good p e below _ (T18.setTop (mkF m 187 (a_JsIRS3IISI x1 p1 ar sl4 sl5 sl6 c24 1 sl9 j0) [.ref ar]))
        refine Good.back (fun _ k => XS.iload X18.here hx rfl (hb hby k18_12.2.2.2) rfl k) ?_
        refine Good.back (fun _ k => XS.bipush X18.here hx rfl (hb hby k18_13.1.1) k) ?_
        have fc25 := f_19
        obtain ⟨cl25, Ar25, qk25, S25, N25', H25, G25⟩ := fc25
        have hin25 : ¬ (c24 < 0 ∨ cl25.slots.size ≤ (c24).toNatClampNeg) := inb_of S25 ⟨own_lt (by rw [show (0 : Int32).toInt = 0 from rfl]; omega), own_lt' (by omega)⟩
        obtain ⟨T25, h25, X25, e25, W25, st25⟩ := stB X18 hx hZ e18 Ar25 (j := c24) hin25 (g := (mkF m 191 (a_JsIRS3IISI x1 p1 ar sl4 sl5 sl6 c24 1 sl9 j0) [.int 45, .int c24, .ref ar])) rfl rfl (hb hby k18_13.1.2)
        refine Good.back st25 ?_
        have f_26 : Arv Z h25 ar kk .byte zc (own_buf bs (rk - 3) ((45 : Int32) :: ((Int32.ofNat (48 + m0 / 10)) :: ((Int32.ofNat (48 + m0 % 10)) :: tk)))) (.int 0) := (by have q := Arv.set Ar25 qk25 S25 N25' H25 G25 (fits_nar_byte _) W25 (bs.length + (rk - 3)) (by have := own_nat (z := c24) (by omega); omega) (by rw [own_bufLen]; omega); rw [show (45 : Int32).toInt8.toInt32 = (45 : Int32) from rfl, own_st (r := rk - 3) (by omega) rfl] at q; exact q)
        have N25 := Fr.snoc X25 N18 ga
        have Z27 : n0 ≤ h25.size := Nat.le_trans Z20 (Keep.of_wr W25).1
        have K28 : Keep h0 h25 [ar] := K21.wr W25 (Or.inl (List.mem_of_getElem? (i := 0) rfl))
        refine Good.back (fun _ k => XS.iload X25.here hx rfl (hb hby k18_13.2.1) rfl k) ?_
        show Good p e below _ (T25.setTop (mkF m 194 (a_JsIRS3IISI x1 p1 ar sl4 sl5 sl6 c24 1 sl9 j0) [.int c24]))
        obtain ⟨fs29, hr29, hrun29, hended29, hW29, hsame29⟩ := X25.leave (v := some (.int c24)) (fun h => by rw [Bd.returns] at h; cases h)
        refine Good.done (retI X25 hx Bd.returns (hb hby k18_13.2.2) hr29) hrun29 hended29 ⟨_, _, rfl, ?_, ⟨_, rfl⟩, hW29, hsame29.mono (by decide) (by decide)⟩
        show Q18 Z q0 p1 ar kk zc bs d1 d2 kd1 kd2 h0 n0 _ T25.heap _
        rw [e25]
        have hT : own_sd q0 = ((45 : Int32) :: ((Int32.ofNat (48 + m0 / 10)) :: ((Int32.ofNat (48 + m0 % 10)) :: tk))) := by rw [hD22]; rfl
        refine ⟨_, rfl, N25, K28, ?_⟩
        have q := f_26
        rw [show rk - 3 = 0 by omega, own_buf0, ← hT] at q
        exact q
    · refine Good.back (fun _ k => XS.icmpYes X6.here hx rfl (pc0 := 161) (pc' := 178) rfl (hb hby k18_11.1.2.1) rfl (flt hc161_10).2.1 (by decide) (by decide) k) ?_
      have v30 : m0 < 10 := by have q := hc161_10; rw [Int32.lt_iff_toInt_lt, show (-9 : Int32).toInt = -9 from rfl] at q; omega
      have hl30 : (own_dg m0).length = 1 := by rw [own_dg1 v30]; rfl
      have hD30 : own_sd q0 = sg ++ ((Int32.ofNat (48 + m0 % 10)) :: tk) := by rw [hI0, own_dg1 v30, show m0 % 10 = m0 by omega]; simp
      show Good p e below _ (T6.setTop (mkF m 178 (a_JsIRS3IISI x1 p1 ar sl4 sl5 sl6 c2 fl sl9 j0) []))
      rcases hsg with ⟨rfl, rfl⟩ | ⟨rfl, rfl⟩
      · have hK30' : rk = 1 := by rw [hR]; simp; omega
        refine Good.back (fun _ k => XS.iload X6.here hx rfl (hb hby k18_12.1.2.2) rfl k) ?_
        refine Good.back (fun _ k => XS.ifYes X6.here hx rfl (pc0 := 180) (pc' := 192) rfl (hb hby k18_12.2.1.1) rfl ((if0 _ _).trans (teq (by decide : ((0 : Int32) = (0 : Int32)))).1) (by decide) (by decide) k) ?_
        show Good p e below _ (T6.setTop (mkF m 192 (a_JsIRS3IISI x1 p1 ar sl4 sl5 sl6 c2 0 sl9 j0) []))
        refine Good.back (fun _ k => XS.iload X6.here hx rfl (hb hby k18_13.2.1) rfl k) ?_
        show Good p e below _ (T6.setTop (mkF m 194 (a_JsIRS3IISI x1 p1 ar sl4 sl5 sl6 c2 0 sl9 j0) [.int c2]))
        obtain ⟨fs31, hr31, hrun31, hended31, hW31, hsame31⟩ := X6.leave (v := some (.int c2)) (fun h => by rw [Bd.returns] at h; cases h)
        refine Good.done (retI X6 hx Bd.returns (hb hby k18_13.2.2) hr31) hrun31 hended31 ⟨_, _, rfl, ?_, ⟨_, rfl⟩, hW31, hsame31.mono (by decide) (by decide)⟩
        show Q18 Z q0 p1 ar kk zc bs d1 d2 kd1 kd2 h0 n0 _ T6.heap _
        rw [e6]
        have hT : own_sd q0 = ((Int32.ofNat (48 + m0 % 10)) :: tk) := by rw [hD30]; rfl
        refine ⟨_, rfl, N6, K9, ?_⟩
        have q := f_7
        rw [show rk - 1 = 0 by omega, own_buf0, ← hT] at q
        exact q
      · have hK30' : rk = 2 := by rw [hR]; simp; omega
        refine Good.back (fun _ k => XS.iload X6.here hx rfl (hb hby k18_12.1.2.2) rfl k) ?_
        refine Good.back (fun _ k => XS.ifNo X6.here hx rfl (hb hby k18_12.2.1.1) rfl ((if0 _ _).trans (feq (by decide : ¬ ((1 : Int32) = (0 : Int32)))).1) k) ?_
        show Good p e below _ (T6.setTop (mkF m 183 (a_JsIRS3IISI x1 p1 ar sl4 sl5 sl6 c2 1 sl9 j0) []))
        refine Good.back (fun _ k => XS.aloadN X6.here hx rfl (hb hby k18_12.2.1.2) rfl rfl k) ?_
        refine Good.back (fun _ k => XS.iinc X6.here hx rfl (hb hby k18_12.2.2.1) rfl (l' := (a_JsIRS3IISI x1 p1 ar sl4 sl5 sl6 (c2 + (-1 : Int32)) 1 sl9 j0)) rfl k) ?_
        show Good p e below _ (T6.setTop (mkF m 187 (a_JsIRS3IISI x1 p1 ar sl4 sl5 sl6 (c2 + (-1 : Int32)) 1 sl9 j0) [.ref ar]))
        have hc32 := own_dec hc2 (by omega)
        obtain ⟨c32, ec32⟩ : ∃ z, z = (c2 + (-1 : Int32)) := ⟨_, rfl⟩
        rw [← ec32] at hc32 ⊢
        show Good p e below _ (T6.setTop (mkF m 187 (a_JsIRS3IISI x1 p1 ar sl4 sl5 sl6 c32 1 sl9 j0) [.ref ar]))
        refine Good.back (fun _ k => XS.iload X6.here hx rfl (hb hby k18_12.2.2.2) rfl k) ?_
        refine Good.back (fun _ k => XS.bipush X6.here hx rfl (hb hby k18_13.1.1) k) ?_
        have fc33 := f_7
        obtain ⟨cl33, Ar33, qk33, S33, N33', H33, G33⟩ := fc33
        have hin33 : ¬ (c32 < 0 ∨ cl33.slots.size ≤ (c32).toNatClampNeg) := inb_of S33 ⟨own_lt (by rw [show (0 : Int32).toInt = 0 from rfl]; omega), own_lt' (by omega)⟩
        obtain ⟨T33, h33, X33, e33, W33, st33⟩ := stB X6 hx hZ e6 Ar33 (j := c32) hin33 (g := (mkF m 191 (a_JsIRS3IISI x1 p1 ar sl4 sl5 sl6 c32 1 sl9 j0) [.int 45, .int c32, .ref ar])) rfl rfl (hb hby k18_13.1.2)
        refine Good.back st33 ?_
        have f_34 : Arv Z h33 ar kk .byte zc (own_buf bs (rk - 2) ((45 : Int32) :: ((Int32.ofNat (48 + m0 % 10)) :: tk))) (.int 0) := (by have q := Arv.set Ar33 qk33 S33 N33' H33 G33 (fits_nar_byte _) W33 (bs.length + (rk - 2)) (by have := own_nat (z := c32) (by omega); omega) (by rw [own_bufLen]; omega); rw [show (45 : Int32).toInt8.toInt32 = (45 : Int32) from rfl, own_st (r := rk - 2) (by omega) rfl] at q; exact q)
        have N33 := Fr.snoc X33 N6 ga
        have Z35 : n0 ≤ h33.size := Nat.le_trans Z8 (Keep.of_wr W33).1
        have K36 : Keep h0 h33 [ar] := K9.wr W33 (Or.inl (List.mem_of_getElem? (i := 0) rfl))
        refine Good.back (fun _ k => XS.iload X33.here hx rfl (hb hby k18_13.2.1) rfl k) ?_
        show Good p e below _ (T33.setTop (mkF m 194 (a_JsIRS3IISI x1 p1 ar sl4 sl5 sl6 c32 1 sl9 j0) [.int c32]))
        obtain ⟨fs37, hr37, hrun37, hended37, hW37, hsame37⟩ := X33.leave (v := some (.int c32)) (fun h => by rw [Bd.returns] at h; cases h)
        refine Good.done (retI X33 hx Bd.returns (hb hby k18_13.2.2) hr37) hrun37 hended37 ⟨_, _, rfl, ?_, ⟨_, rfl⟩, hW37, hsame37.mono (by decide) (by decide)⟩
        show Q18 Z q0 p1 ar kk zc bs d1 d2 kd1 kd2 h0 n0 _ T33.heap _
        rw [e33]
        have hT : own_sd q0 = ((45 : Int32) :: ((Int32.ofNat (48 + m0 % 10)) :: tk)) := by rw [hD30]; rfl
        refine ⟨_, rfl, N33, K36, ?_⟩
        have q := f_34
        rw [show rk - 2 = 0 by omega, own_buf0, ← hT] at q
        exact q
  have key86 : ∀ (f : Nat) (x1 : Int64) (sl4 : Slot) (sl5 : Slot) (i6 : Int32) (i9 : Int32) (j0 : Int32) (fl : Int32) (sg : List Int32) (m0 : Nat) (rk : Nat) (tk : List Int32) (c0 : Int32) (Hk86 : Heap) (Tk86 : State) (lk86 : List Loc) (Xk86 : Stand p l e R_0 s m #[(.long q0), (.int p1), (.ref ar)] below meth c Tk86 lk86 0 0) (Nk86 : Fr n0 lk86) (ek86 : Tk86.heap = Hk86) (Zk86 : n0 ≤ Hk86.size) (Kk86 : Keep h0 Hk86 [ar]) (Vk86 : Arv Z Hk86 ar kk .byte zc (own_buf bs rk tk) (.int 0)) (Sa86 : Sta Z Hk86 "java/lang/Integer" "DigitOnes" "[B" (.ref d1)) (Sb86 : Sta Z Hk86 "java/lang/Integer" "DigitTens" "[B" (.ref d2)) (Va86 : Arv Z Hk86 d1 kd1 .byte (100 : Int32) own_ones (.int 0)) (Vb86 : Arv Z Hk86 d2 kd2 .byte (100 : Int32) own_tens (.int 0)) (hsg : (fl = 0 ∧ sg = []) ∨ (fl = 1 ∧ sg = [45])) (hI0 : own_sd q0 = sg ++ (own_dg m0 ++ tk)) (hR : rk = sg.length + (own_dg m0).length) (hRL : ((bs.length + rk : Nat) : Int) ≤ zc.toInt) (hc0 : c0.toInt = ((bs.length + rk : Nat) : Int)) (hj0 : j0.toInt = -(m0 : Int)) (hm0 : m0 < 2147483648) (hf : m0 < f), Good p e below (fun o U' => ∃ v L, o = .returned v ∧ Q18 Z q0 p1 ar kk zc bs d1 d2 kd1 kd2 h0 n0 v U'.heap L ∧ FrameEnd s o U' L R_0.cells R_0.slots) (Tk86.setTop (mkF m 86 (a_JsIRSSI5 x1 p1 ar sl4 sl5 i6 c0 fl i9 j0) [])) := by
    intro f
    induction f with
    | zero =>
      intro x1 sl4 sl5 i6 i9 j0 fl sg m0 rk tk c0 Hk86 Tk86 lk86 Xk86 Nk86 ek86 Zk86 Kk86 Vk86 Sa86 Sb86 Va86 Vb86 hsg hI0 hR hRL hc0 hj0 hm0 hf
      exact absurd hf (Nat.not_lt_zero _)
    | succ f ih =>
      intro x1 sl4 sl5 i6 i9 j0 fl sg m0 rk tk c0 Hk86 Tk86 lk86 Xk86 Nk86 ek86 Zk86 Kk86 Vk86 Sa86 Sb86 Va86 Vb86 hsg hI0 hR hRL hc0 hj0 hm0 hf
      refine Good.back (fun _ k => XS.iload Xk86.here hx rfl (hb hby k18_6.1.2.1) rfl k) ?_
      refine Good.back (fun _ k => XS.bipush Xk86.here hx rfl (hb hby k18_6.1.2.2) k) ?_
      show Good p e below _ (Tk86.setTop (mkF m 90 (a_JsIRSSI5 x1 p1 ar sl4 sl5 i6 c0 fl i9 j0) [.int (-100 : Int32), .int j0]))
      by_cases hc90_38 : (-100 : Int32) < j0
      · refine Good.back (fun _ k => XS.icmpYes Xk86.here hx rfl (pc0 := 90) (pc' := 143) rfl (hb hby k18_6.2.1.1) rfl (tlt hc90_38).2.2.1 (by decide) (by decide) k) ?_
        show Good p e below _ (Tk86.setTop (mkF m 143 (a_JsIRSSI5 x1 p1 ar sl4 sl5 i6 c0 fl i9 j0) []))
        exact key143 x1 (sl4) (sl5) ((.val (.int i6))) ((.val (.int i9))) j0 fl sg m0 rk tk c0 Hk86 _ _ Xk86 Nk86 ek86 (Zk86) (Kk86) (Vk86) (Sa86) (Sb86) (Va86) (Vb86) (hsg) (hI0) (hR) (by omega) (hc0) (hj0) (by have q := hc90_38; rw [Int32.lt_iff_toInt_lt, show (-100 : Int32).toInt = -100 from rfl] at q; omega)
      · refine Good.back (fun _ k => XS.icmpNo Xk86.here hx rfl (hb hby k18_6.2.1.1) rfl (flt hc90_38).2.2.1 k) ?_
        refine Good.back (fun _ k => XS.iload Xk86.here hx rfl (hb hby k18_6.2.1.2) rfl k) ?_
        refine Good.back (fun _ k => XS.bipush Xk86.here hx rfl (hb hby k18_6.2.2.1) k) ?_
        refine Good.back (fun _ k => XS.idiv Xk86.here hx rfl (hb hby k18_6.2.2.2) rfl (by decide) k) ?_
        have w39 : j0.toInt ≤ -100 := by have q := hc90_38; rw [Int32.lt_iff_toInt_lt, show (-100 : Int32).toInt = -100 from rfl] at q; omega
        have hd39 := own_div hj0 (by omega)
        show Good p e below _ (Tk86.setTop (mkF m 98 (a_JsIRSSI5 x1 p1 ar sl4 sl5 i6 c0 fl i9 j0) [.int (j0 / (100 : Int32))]))
        obtain ⟨y39, ey39⟩ : ∃ z, z = (j0 / (100 : Int32)) := ⟨_, rfl⟩
        rw [← ey39] at hd39 ⊢
        show Good p e below _ (Tk86.setTop (mkF m 98 (a_JsIRSSI5 x1 p1 ar sl4 sl5 i6 c0 fl i9 j0) [.int y39]))
        refine Good.back (fun _ k => XS.istore Xk86.here hx rfl (hb hby k18_7.1.1.1) rfl (l' := (a_JsIRSSI5 x1 p1 ar sl4 sl5 i6 c0 fl y39 j0)) rfl k) ?_
        refine Good.back (fun _ k => XS.iload Xk86.here hx rfl (hb hby k18_7.1.1.2) rfl k) ?_
        refine Good.back (fun _ k => XS.bipush Xk86.here hx rfl (hb hby k18_7.1.2.1) k) ?_
        refine Good.back (fun _ k => XS.imul Xk86.here hx rfl (hb hby k18_7.1.2.2) rfl k) ?_
        refine Good.back (fun _ k => XS.iload Xk86.here hx rfl (hb hby k18_7.2.1.1) rfl k) ?_
        refine Good.back (fun _ k => XS.isub Xk86.here hx rfl (hb hby k18_7.2.1.2) rfl k) ?_
        show Good p e below _ (Tk86.setTop (mkF m 108 (a_JsIRSSI5 x1 p1 ar sl4 sl5 i6 c0 fl y39 j0) [.int ((y39 * (100 : Int32)) - j0)]))
        obtain ⟨rr40, er40⟩ : ∃ z, z = ((y39 * (100 : Int32)) - j0) := ⟨_, rfl⟩
        rw [← er40]
        have hr40 : rr40.toInt = ((m0 % 100 : Nat) : Int) := by rw [er40]; exact hd39.2
        have hrN40 : rr40.toNatClampNeg = m0 % 100 := by have := own_nat (z := rr40) (by omega); omega
        have hI41 : own_sd q0 = sg ++ (own_dg (m0 / 100) ++ (Int32.ofNat (48 + m0 % 100 / 10) :: Int32.ofNat (48 + m0 % 100 % 10) :: tk)) := by rw [hI0, own_dg100 (m := m0) (by omega)]; simp
        have hl41 : (own_dg m0).length = (own_dg (m0 / 100)).length + 2 := by rw [own_dg100 (m := m0) (by omega)]; simp
        obtain ⟨m41, em41⟩ : ∃ z, z = m0 / 100 := ⟨_, rfl⟩
        rw [← em41] at hI41 hl41
        have hP41 := own_dgPos m41
        show Good p e below _ (Tk86.setTop (mkF m 108 (a_JsIRSSI5 x1 p1 ar sl4 sl5 i6 c0 fl y39 j0) [.int rr40]))
        refine Good.back (fun _ k => XS.istore Xk86.here hx rfl (hb hby k18_7.2.2.1) rfl (l' := (a_JsIRSSI5 x1 p1 ar sl4 sl5 rr40 c0 fl y39 j0)) rfl k) ?_
        refine Good.back (fun _ k => XS.iload Xk86.here hx rfl (hb hby k18_7.2.2.2) rfl k) ?_
        refine Good.back (fun _ k => XS.istore Xk86.here hx rfl (hb hby k18_8.1.1.1) rfl (l' := (a_JsIRSSI5 x1 p1 ar sl4 sl5 rr40 c0 fl y39 y39)) rfl k) ?_
        refine Good.back (fun _ k => XS.aloadN Xk86.here hx rfl (hb hby k18_8.1.1.2) rfl rfl k) ?_
        refine Good.back (fun _ k => XS.iinc Xk86.here hx rfl (hb hby k18_8.1.2.1) rfl (l' := (a_JsIRSSI5 x1 p1 ar sl4 sl5 rr40 (c0 + (-1 : Int32)) fl y39 y39)) rfl k) ?_
        show Good p e below _ (Tk86.setTop (mkF m 118 (a_JsIRSSI5 x1 p1 ar sl4 sl5 rr40 (c0 + (-1 : Int32)) fl y39 y39) [.ref ar]))
        have hc42 := own_dec hc0 (by omega)
        obtain ⟨c42, ec42⟩ : ∃ z, z = (c0 + (-1 : Int32)) := ⟨_, rfl⟩
        rw [← ec42] at hc42 ⊢
        show Good p e below _ (Tk86.setTop (mkF m 118 (a_JsIRSSI5 x1 p1 ar sl4 sl5 rr40 c42 fl y39 y39) [.ref ar]))
        refine Good.back (fun _ k => XS.iload Xk86.here hx rfl (hb hby k18_8.1.2.2) rfl k) ?_
        obtain ⟨T43, X43, e43, st43⟩ := getS2 Xk86 hx hZ hown (host := "") (Or.inl (wd hw 117 rfl)) Via.refl ek86 Sa86 (g := (mkF m 120 (a_JsIRSSI5 x1 p1 ar sl4 sl5 rr40 c42 fl y39 y39) [.int c42, .ref ar])) rfl (hb hby k18_8.2.1.1)
        refine Good.back st43 ?_
        refine Good.back (fun _ k => XS.iload X43.here hx rfl (hb hby k18_8.2.1.2) rfl k) ?_
        have fc44 := Va86
        obtain ⟨cl44, Ar44, qk44, S44, N44', H44, G44⟩ := fc44
        have hin44 : ¬ (rr40 < 0 ∨ cl44.slots.size ≤ (rr40).toNatClampNeg) := inb_of S44 ⟨own_lt (by rw [show (0 : Int32).toInt = 0 from rfl]; omega), own_lt' (by rw [show (100 : Int32).toInt = 100 from rfl]; omega)⟩
        have hat44 : cl44.slots[(rr40).toNatClampNeg]? = some (.int (Int32.ofNat (48 + m0 % 100 % 10))) := Has.at H44 hin44 (by rw [hrN40]; exact own_onesAt (by omega) _)
        refine Good.back (X43.baloadBytes hx (j := rr40) (v := (.int (Int32.ofNat (48 + m0 % 100 % 10)))) (by rw [e43]; exact Ar44.1) (State.isArrayOf_alike hZ.alike Ar44.2.1) Ar44.2.2 hin44 hat44 (g := (mkF m 125 (a_JsIRSSI5 x1 p1 ar sl4 sl5 rr40 c42 fl y39 y39) [.int rr40, .ref d1, .int c42, .ref ar])) rfl rfl (hb hby k18_8.2.2.1)) ?_
        have fc45 := Vk86
        obtain ⟨cl45, Ar45, qk45, S45, N45', H45, G45⟩ := fc45
        have hin45 : ¬ (c42 < 0 ∨ cl45.slots.size ≤ (c42).toNatClampNeg) := inb_of S45 ⟨own_lt (by rw [show (0 : Int32).toInt = 0 from rfl]; omega), own_lt' (by omega)⟩
        obtain ⟨T45, h45, X45, e45, W45, st45⟩ := stB X43 hx hZ e43 Ar45 (j := c42) hin45 (g := (mkF m 126 (a_JsIRSSI5 x1 p1 ar sl4 sl5 rr40 c42 fl y39 y39) [.int (Int32.ofNat (48 + m0 % 100 % 10)), .int c42, .ref ar])) rfl rfl (hb hby k18_8.2.2.2)
        refine Good.back st45 ?_
        have f_46 : Arv Z h45 ar kk .byte zc (own_buf bs (rk - 1) ((Int32.ofNat (48 + m0 % 100 % 10)) :: tk)) (.int 0) := (by have q := Arv.set Ar45 qk45 S45 N45' H45 G45 (fits_nar_byte _) W45 (bs.length + (rk - 1)) (by have := own_nat (z := c42) (by omega); omega) (by rw [own_bufLen]; omega); rw [own_b (by omega), own_st (r := rk - 1) (by omega) rfl] at q; exact q)
        have N45 := Fr.snoc X45 Nk86 ga
        have Z47 : n0 ≤ h45.size := Nat.le_trans Zk86 (Keep.of_wr W45).1
        have K48 : Keep h0 h45 [ar] := Kk86.wr W45 (Or.inl (List.mem_of_getElem? (i := 0) rfl))
        refine Good.back (fun _ k => XS.aloadN X45.here hx rfl (hb hby k18_9.1.1.1) rfl rfl k) ?_
        refine Good.back (fun _ k => XS.iinc X45.here hx rfl (hb hby k18_9.1.1.2) rfl (l' := (a_JsIRSSI5 x1 p1 ar sl4 sl5 rr40 (c42 + (-1 : Int32)) fl y39 y39)) rfl k) ?_
        show Good p e below _ (T45.setTop (mkF m 131 (a_JsIRSSI5 x1 p1 ar sl4 sl5 rr40 (c42 + (-1 : Int32)) fl y39 y39) [.ref ar]))
        have hc49 := own_dec hc42 (by omega)
        obtain ⟨c49, ec49⟩ : ∃ z, z = (c42 + (-1 : Int32)) := ⟨_, rfl⟩
        rw [← ec49] at hc49 ⊢
        show Good p e below _ (T45.setTop (mkF m 131 (a_JsIRSSI5 x1 p1 ar sl4 sl5 rr40 c49 fl y39 y39) [.ref ar]))
        refine Good.back (fun _ k => XS.iload X45.here hx rfl (hb hby k18_9.1.2.1) rfl k) ?_
        have f_50 : Sta Z h45 "java/lang/Integer" "DigitTens" "[B" (.ref d2) := Sta.wr W45 Sb86
        obtain ⟨T51, X51, e51, st51⟩ := getS2 X45 hx hZ hown (host := "") (Or.inl (wd hw 273 rfl)) Via.refl e45 f_50 (g := (mkF m 133 (a_JsIRSSI5 x1 p1 ar sl4 sl5 rr40 c49 fl y39 y39) [.int c49, .ref ar])) rfl (hb hby k18_9.1.2.2)
        refine Good.back st51 ?_
        refine Good.back (fun _ k => XS.iload X51.here hx rfl (hb hby k18_9.2.1.1) rfl k) ?_
        have f_52 : Arv Z h45 d2 kd2 .byte (100 : Int32) own_tens (.int 0) := Arv.other Vb86 W45 nd2
        have fc53 := f_52
        obtain ⟨cl53, Ar53, qk53, S53, N53', H53, G53⟩ := fc53
        have hin53 : ¬ (rr40 < 0 ∨ cl53.slots.size ≤ (rr40).toNatClampNeg) := inb_of S53 ⟨own_lt (by rw [show (0 : Int32).toInt = 0 from rfl]; omega), own_lt' (by rw [show (100 : Int32).toInt = 100 from rfl]; omega)⟩
        have hat53 : cl53.slots[(rr40).toNatClampNeg]? = some (.int (Int32.ofNat (48 + m0 % 100 / 10))) := Has.at H53 hin53 (by rw [hrN40]; exact own_tensAt (by omega) _)
        refine Good.back (X51.baloadBytes hx (j := rr40) (v := (.int (Int32.ofNat (48 + m0 % 100 / 10)))) (by rw [e51]; exact Ar53.1) (State.isArrayOf_alike hZ.alike Ar53.2.1) Ar53.2.2 hin53 hat53 (g := (mkF m 138 (a_JsIRSSI5 x1 p1 ar sl4 sl5 rr40 c49 fl y39 y39) [.int rr40, .ref d2, .int c49, .ref ar])) rfl rfl (hb hby k18_9.2.1.2)) ?_
        have fc54 := f_46
        obtain ⟨cl54, Ar54, qk54, S54, N54', H54, G54⟩ := fc54
        have hin54 : ¬ (c49 < 0 ∨ cl54.slots.size ≤ (c49).toNatClampNeg) := inb_of S54 ⟨own_lt (by rw [show (0 : Int32).toInt = 0 from rfl]; omega), own_lt' (by omega)⟩
        obtain ⟨T54, h54, X54, e54, W54, st54⟩ := stB X51 hx hZ e51 Ar54 (j := c49) hin54 (g := (mkF m 139 (a_JsIRSSI5 x1 p1 ar sl4 sl5 rr40 c49 fl y39 y39) [.int (Int32.ofNat (48 + m0 % 100 / 10)), .int c49, .ref ar])) rfl rfl (hb hby k18_9.2.2.1)
        refine Good.back st54 ?_
        have f_55 : Arv Z h54 ar kk .byte zc (own_buf bs (rk - 2) ((Int32.ofNat (48 + m0 % 100 / 10)) :: ((Int32.ofNat (48 + m0 % 100 % 10)) :: tk))) (.int 0) := (by have q := Arv.set Ar54 qk54 S54 N54' H54 G54 (fits_nar_byte _) W54 (bs.length + (rk - 2)) (by have := own_nat (z := c49) (by omega); omega) (by rw [own_bufLen]; omega); rw [own_b (by omega), own_st (r := rk - 2) (by omega) rfl] at q; exact q)
        have N54 := Fr.snoc X54 N45 ga
        have Z56 : n0 ≤ h54.size := Nat.le_trans Z47 (Keep.of_wr W54).1
        have K57 : Keep h0 h54 [ar] := K48.wr W54 (Or.inl (List.mem_of_getElem? (i := 0) rfl))
        have hjem41 : y39.toInt = -(m41 : Int) := by rw [em41]; exact hd39.1
        show Good p e below _ (T54.setTop (mkF m 140 (a_JsIRSSI5 x1 p1 ar sl4 sl5 rr40 c49 fl y39 y39) []))
        refine Good.back (fun _ k => XS.goto X54.here hx rfl (pc0 := 140) (pc' := 86) rfl (hb hby k18_9.2.2.2) (by decide) (by decide) k) ?_
        show Good p e below _ (T54.setTop (mkF m 86 (a_JsIRSSI5 x1 p1 ar sl4 sl5 rr40 c49 fl y39 y39) []))
        have f_58 : Sta Z h45 "java/lang/Integer" "DigitOnes" "[B" (.ref d1) := Sta.wr W45 Sa86
        have f_59 : Sta Z h54 "java/lang/Integer" "DigitOnes" "[B" (.ref d1) := Sta.wr W54 f_58
        have f_60 : Sta Z h54 "java/lang/Integer" "DigitTens" "[B" (.ref d2) := Sta.wr W54 f_50
        have f_61 : Arv Z h45 d1 kd1 .byte (100 : Int32) own_ones (.int 0) := Arv.other Va86 W45 nd1
        have f_62 : Arv Z h54 d1 kd1 .byte (100 : Int32) own_ones (.int 0) := Arv.other f_61 W54 nd1
        have f_63 : Arv Z h54 d2 kd2 .byte (100 : Int32) own_tens (.int 0) := Arv.other f_52 W54 nd2
        exact ih x1 (sl4) (sl5) rr40 y39 y39 fl sg m41 ((rk - 2)) (((Int32.ofNat (48 + m0 % 100 / 10)) :: ((Int32.ofNat (48 + m0 % 100 % 10)) :: tk))) c49 h54 _ _ X54 N54 e54 (Z56) (K57) (f_55) (f_59) (f_60) (f_62) (f_63) (hsg) (hI41) (by omega) (by omega) (by rw [hc49]; omega) (hjem41) (by omega) (by omega)
  have key24 : ∀ (x0 : Int64) (fl : Int32) (sg : List Int32) (m0 : Nat) (rk : Nat) (tk : List Int32) (c0 : Int32) (Hk24 : Heap) (Tk24 : State) (lk24 : List Loc) (Xk24 : Stand p l e R_0 s m #[(.long q0), (.int p1), (.ref ar)] below meth c Tk24 lk24 0 0) (Nk24 : Fr n0 lk24) (ek24 : Tk24.heap = Hk24) (Zk24 : n0 ≤ Hk24.size) (Kk24 : Keep h0 Hk24 [ar]) (Vk24 : Arv Z Hk24 ar kk .byte zc (own_buf bs rk tk) (.int 0)) (Sa24 : Sta Z Hk24 "java/lang/Integer" "DigitOnes" "[B" (.ref d1)) (Sb24 : Sta Z Hk24 "java/lang/Integer" "DigitTens" "[B" (.ref d2)) (Va24 : Arv Z Hk24 d1 kd1 .byte (100 : Int32) own_ones (.int 0)) (Vb24 : Arv Z Hk24 d2 kd2 .byte (100 : Int32) own_tens (.int 0)) (hsg : (fl = 0 ∧ sg = []) ∨ (fl = 1 ∧ sg = [45])) (hI0 : own_sd q0 = sg ++ (own_dg m0 ++ tk)) (hR : rk = sg.length + (own_dg m0).length) (hRL : ((bs.length + rk : Nat) : Int) ≤ zc.toInt) (hc0 : c0.toInt = ((bs.length + rk : Nat) : Int)) (hx0 : x0.toInt = -(m0 : Int)) (hm0 : m0 ≤ 4294967296), Good p e below (fun o U' => ∃ v L, o = .returned v ∧ Q18 Z q0 p1 ar kk zc bs d1 d2 kd1 kd2 h0 n0 v U'.heap L ∧ FrameEnd s o U' L R_0.cells R_0.slots) (Tk24.setTop (mkF m 24 (a_JsIRu3IIuu x0 p1 ar c0 fl) [])) := by
    intro x0 fl sg m0 rk tk c0 Hk24 Tk24 lk24 Xk24 Nk24 ek24 Zk24 Kk24 Vk24 Sa24 Sb24 Va24 Vb24 hsg hI0 hR hRL hc0 hx0 hm0
    refine Good.back (fun _ k => XS.lloadN Xk24.here hx rfl (hb hby k18_1.2.2.2) rfl k) ?_
    refine Good.back (Xk24.ldc2Long hx hown (mvT hZ (wd hw 116 rfl)) (g := (mkF m 25 (a_JsIRu3IIuu x0 p1 ar c0 fl) [.long x0])) rfl (hb hby k18_2.1.1.1)) ?_
    refine Good.back (fun _ k => XS.lcmp Xk24.here hx rfl (hb hby k18_2.1.1.2) rfl k) ?_
    show Good p e below _ (Tk24.setTop (mkF m 29 (a_JsIRu3IIuu x0 p1 ar c0 fl) [.int (lcmpW x0 (-2147483648 : Int64))]))
    by_cases hc29_64 : (0 : Int32) < (lcmpW x0 (-2147483648 : Int64))
    · refine Good.back (fun _ k => XS.ifYes Xk24.here hx rfl (pc0 := 29) (pc' := 82) rfl (hb hby k18_2.1.2.1) rfl ((if0 _ _).trans (tlt hc29_64).2.2.1) (by decide) (by decide) k) ?_
      refine Good.back (fun _ k => XS.lloadN Xk24.here hx rfl (hb hby k18_5.2.2.2) rfl k) ?_
      refine Good.back (fun _ k => XS.l2i Xk24.here hx rfl (hb hby k18_6.1.1.1) rfl k) ?_
      have w65 := (lw_gt _ _).mp hc29_64
      rw [Int64.lt_iff_toInt_lt, hx0, show (-2147483648 : Int64).toInt = -2147483648 from rfl] at w65
      have hj65 := own_l2i hx0 (by omega)
      show Good p e below _ (Tk24.setTop (mkF m 84 (a_JsIRu3IIuu x0 p1 ar c0 fl) [.int (x0.toInt32)]))
      obtain ⟨j65, ej65⟩ : ∃ z, z = (x0.toInt32) := ⟨_, rfl⟩
      rw [← ej65] at hj65 ⊢
      show Good p e below _ (Tk24.setTop (mkF m 84 (a_JsIRu3IIuu x0 p1 ar c0 fl) [.int j65]))
      refine Good.back (fun _ k => XS.istore Xk24.here hx rfl (hb hby k18_6.1.1.2) rfl (l' := (a_JsIRu3IIuI x0 p1 ar c0 fl j65)) rfl k) ?_
      show Good p e below _ (Tk24.setTop (mkF m 86 (a_JsIRu3IIuI x0 p1 ar c0 fl j65) []))
      refine Good.back (fun _ k => XS.iload Xk24.here hx rfl (hb hby k18_6.1.2.1) rfl k) ?_
      refine Good.back (fun _ k => XS.bipush Xk24.here hx rfl (hb hby k18_6.1.2.2) k) ?_
      show Good p e below _ (Tk24.setTop (mkF m 90 (a_JsIRu3IIuI x0 p1 ar c0 fl j65) [.int (-100 : Int32), .int j65]))
      by_cases hc90_66 : (-100 : Int32) < j65
      · refine Good.back (fun _ k => XS.icmpYes Xk24.here hx rfl (pc0 := 90) (pc' := 143) rfl (hb hby k18_6.2.1.1) rfl (tlt hc90_66).2.2.1 (by decide) (by decide) k) ?_
        show Good p e below _ (Tk24.setTop (mkF m 143 (a_JsIRu3IIuI x0 p1 ar c0 fl j65) []))
        exact key143 x0 (.unset) (.unset) (.unset) (.unset) j65 fl sg m0 rk tk c0 Hk24 _ _ Xk24 Nk24 ek24 (Zk24) (Kk24) (Vk24) (Sa24) (Sb24) (Va24) (Vb24) (hsg) (hI0) (hR) (by omega) (hc0) (hj65) (by have q := hc90_66; rw [Int32.lt_iff_toInt_lt, show (-100 : Int32).toInt = -100 from rfl] at q; omega)
      · refine Good.back (fun _ k => XS.icmpNo Xk24.here hx rfl (hb hby k18_6.2.1.1) rfl (flt hc90_66).2.2.1 k) ?_
        refine Good.back (fun _ k => XS.iload Xk24.here hx rfl (hb hby k18_6.2.1.2) rfl k) ?_
        refine Good.back (fun _ k => XS.bipush Xk24.here hx rfl (hb hby k18_6.2.2.1) k) ?_
        refine Good.back (fun _ k => XS.idiv Xk24.here hx rfl (hb hby k18_6.2.2.2) rfl (by decide) k) ?_
        have w67 : j65.toInt ≤ -100 := by have q := hc90_66; rw [Int32.lt_iff_toInt_lt, show (-100 : Int32).toInt = -100 from rfl] at q; omega
        have hd67 := own_div hj65 (by omega)
        show Good p e below _ (Tk24.setTop (mkF m 98 (a_JsIRu3IIuI x0 p1 ar c0 fl j65) [.int (j65 / (100 : Int32))]))
        obtain ⟨y67, ey67⟩ : ∃ z, z = (j65 / (100 : Int32)) := ⟨_, rfl⟩
        rw [← ey67] at hd67 ⊢
        show Good p e below _ (Tk24.setTop (mkF m 98 (a_JsIRu3IIuI x0 p1 ar c0 fl j65) [.int y67]))
        refine Good.back (fun _ k => XS.istore Xk24.here hx rfl (hb hby k18_7.1.1.1) rfl (l' := (a_JsIRu3I4 x0 p1 ar c0 fl y67 j65)) rfl k) ?_
        refine Good.back (fun _ k => XS.iload Xk24.here hx rfl (hb hby k18_7.1.1.2) rfl k) ?_
        refine Good.back (fun _ k => XS.bipush Xk24.here hx rfl (hb hby k18_7.1.2.1) k) ?_
        refine Good.back (fun _ k => XS.imul Xk24.here hx rfl (hb hby k18_7.1.2.2) rfl k) ?_
        refine Good.back (fun _ k => XS.iload Xk24.here hx rfl (hb hby k18_7.2.1.1) rfl k) ?_
        refine Good.back (fun _ k => XS.isub Xk24.here hx rfl (hb hby k18_7.2.1.2) rfl k) ?_
        show Good p e below _ (Tk24.setTop (mkF m 108 (a_JsIRu3I4 x0 p1 ar c0 fl y67 j65) [.int ((y67 * (100 : Int32)) - j65)]))
        obtain ⟨rr68, er68⟩ : ∃ z, z = ((y67 * (100 : Int32)) - j65) := ⟨_, rfl⟩
        rw [← er68]
        have hr68 : rr68.toInt = ((m0 % 100 : Nat) : Int) := by rw [er68]; exact hd67.2
        have hrN68 : rr68.toNatClampNeg = m0 % 100 := by have := own_nat (z := rr68) (by omega); omega
        have hI69 : own_sd q0 = sg ++ (own_dg (m0 / 100) ++ (Int32.ofNat (48 + m0 % 100 / 10) :: Int32.ofNat (48 + m0 % 100 % 10) :: tk)) := by rw [hI0, own_dg100 (m := m0) (by omega)]; simp
        have hl69 : (own_dg m0).length = (own_dg (m0 / 100)).length + 2 := by rw [own_dg100 (m := m0) (by omega)]; simp
        obtain ⟨m69, em69⟩ : ∃ z, z = m0 / 100 := ⟨_, rfl⟩
        rw [← em69] at hI69 hl69
        have hP69 := own_dgPos m69
        show Good p e below _ (Tk24.setTop (mkF m 108 (a_JsIRu3I4 x0 p1 ar c0 fl y67 j65) [.int rr68]))
        refine Good.back (fun _ k => XS.istore Xk24.here hx rfl (hb hby k18_7.2.2.1) rfl (l' := (a_JsIRuuI5 x0 p1 ar rr68 c0 fl y67 j65)) rfl k) ?_
        refine Good.back (fun _ k => XS.iload Xk24.here hx rfl (hb hby k18_7.2.2.2) rfl k) ?_
        refine Good.back (fun _ k => XS.istore Xk24.here hx rfl (hb hby k18_8.1.1.1) rfl (l' := (a_JsIRuuI5 x0 p1 ar rr68 c0 fl y67 y67)) rfl k) ?_
        refine Good.back (fun _ k => XS.aloadN Xk24.here hx rfl (hb hby k18_8.1.1.2) rfl rfl k) ?_
        refine Good.back (fun _ k => XS.iinc Xk24.here hx rfl (hb hby k18_8.1.2.1) rfl (l' := (a_JsIRuuI5 x0 p1 ar rr68 (c0 + (-1 : Int32)) fl y67 y67)) rfl k) ?_
        show Good p e below _ (Tk24.setTop (mkF m 118 (a_JsIRuuI5 x0 p1 ar rr68 (c0 + (-1 : Int32)) fl y67 y67) [.ref ar]))
        have hc70 := own_dec hc0 (by omega)
        obtain ⟨c70, ec70⟩ : ∃ z, z = (c0 + (-1 : Int32)) := ⟨_, rfl⟩
        rw [← ec70] at hc70 ⊢
        show Good p e below _ (Tk24.setTop (mkF m 118 (a_JsIRuuI5 x0 p1 ar rr68 c70 fl y67 y67) [.ref ar]))
        refine Good.back (fun _ k => XS.iload Xk24.here hx rfl (hb hby k18_8.1.2.2) rfl k) ?_
        obtain ⟨T71, X71, e71, st71⟩ := getS2 Xk24 hx hZ hown (host := "") (Or.inl (wd hw 117 rfl)) Via.refl ek24 Sa24 (g := (mkF m 120 (a_JsIRuuI5 x0 p1 ar rr68 c70 fl y67 y67) [.int c70, .ref ar])) rfl (hb hby k18_8.2.1.1)
        refine Good.back st71 ?_
        refine Good.back (fun _ k => XS.iload X71.here hx rfl (hb hby k18_8.2.1.2) rfl k) ?_
        have fc72 := Va24
        obtain ⟨cl72, Ar72, qk72, S72, N72', H72, G72⟩ := fc72
        have hin72 : ¬ (rr68 < 0 ∨ cl72.slots.size ≤ (rr68).toNatClampNeg) := inb_of S72 ⟨own_lt (by rw [show (0 : Int32).toInt = 0 from rfl]; omega), own_lt' (by rw [show (100 : Int32).toInt = 100 from rfl]; omega)⟩
        have hat72 : cl72.slots[(rr68).toNatClampNeg]? = some (.int (Int32.ofNat (48 + m0 % 100 % 10))) := Has.at H72 hin72 (by rw [hrN68]; exact own_onesAt (by omega) _)
        refine Good.back (X71.baloadBytes hx (j := rr68) (v := (.int (Int32.ofNat (48 + m0 % 100 % 10)))) (by rw [e71]; exact Ar72.1) (State.isArrayOf_alike hZ.alike Ar72.2.1) Ar72.2.2 hin72 hat72 (g := (mkF m 125 (a_JsIRuuI5 x0 p1 ar rr68 c70 fl y67 y67) [.int rr68, .ref d1, .int c70, .ref ar])) rfl rfl (hb hby k18_8.2.2.1)) ?_
        have fc73 := Vk24
        obtain ⟨cl73, Ar73, qk73, S73, N73', H73, G73⟩ := fc73
        have hin73 : ¬ (c70 < 0 ∨ cl73.slots.size ≤ (c70).toNatClampNeg) := inb_of S73 ⟨own_lt (by rw [show (0 : Int32).toInt = 0 from rfl]; omega), own_lt' (by omega)⟩
        obtain ⟨T73, h73, X73, e73, W73, st73⟩ := stB X71 hx hZ e71 Ar73 (j := c70) hin73 (g := (mkF m 126 (a_JsIRuuI5 x0 p1 ar rr68 c70 fl y67 y67) [.int (Int32.ofNat (48 + m0 % 100 % 10)), .int c70, .ref ar])) rfl rfl (hb hby k18_8.2.2.2)
        refine Good.back st73 ?_
        have f_74 : Arv Z h73 ar kk .byte zc (own_buf bs (rk - 1) ((Int32.ofNat (48 + m0 % 100 % 10)) :: tk)) (.int 0) := (by have q := Arv.set Ar73 qk73 S73 N73' H73 G73 (fits_nar_byte _) W73 (bs.length + (rk - 1)) (by have := own_nat (z := c70) (by omega); omega) (by rw [own_bufLen]; omega); rw [own_b (by omega), own_st (r := rk - 1) (by omega) rfl] at q; exact q)
        have N73 := Fr.snoc X73 Nk24 ga
        have Z75 : n0 ≤ h73.size := Nat.le_trans Zk24 (Keep.of_wr W73).1
        have K76 : Keep h0 h73 [ar] := Kk24.wr W73 (Or.inl (List.mem_of_getElem? (i := 0) rfl))
        refine Good.back (fun _ k => XS.aloadN X73.here hx rfl (hb hby k18_9.1.1.1) rfl rfl k) ?_
        refine Good.back (fun _ k => XS.iinc X73.here hx rfl (hb hby k18_9.1.1.2) rfl (l' := (a_JsIRuuI5 x0 p1 ar rr68 (c70 + (-1 : Int32)) fl y67 y67)) rfl k) ?_
        show Good p e below _ (T73.setTop (mkF m 131 (a_JsIRuuI5 x0 p1 ar rr68 (c70 + (-1 : Int32)) fl y67 y67) [.ref ar]))
        have hc77 := own_dec hc70 (by omega)
        obtain ⟨c77, ec77⟩ : ∃ z, z = (c70 + (-1 : Int32)) := ⟨_, rfl⟩
        rw [← ec77] at hc77 ⊢
        show Good p e below _ (T73.setTop (mkF m 131 (a_JsIRuuI5 x0 p1 ar rr68 c77 fl y67 y67) [.ref ar]))
        refine Good.back (fun _ k => XS.iload X73.here hx rfl (hb hby k18_9.1.2.1) rfl k) ?_
        have f_78 : Sta Z h73 "java/lang/Integer" "DigitTens" "[B" (.ref d2) := Sta.wr W73 Sb24
        obtain ⟨T79, X79, e79, st79⟩ := getS2 X73 hx hZ hown (host := "") (Or.inl (wd hw 273 rfl)) Via.refl e73 f_78 (g := (mkF m 133 (a_JsIRuuI5 x0 p1 ar rr68 c77 fl y67 y67) [.int c77, .ref ar])) rfl (hb hby k18_9.1.2.2)
        refine Good.back st79 ?_
        refine Good.back (fun _ k => XS.iload X79.here hx rfl (hb hby k18_9.2.1.1) rfl k) ?_
        have f_80 : Arv Z h73 d2 kd2 .byte (100 : Int32) own_tens (.int 0) := Arv.other Vb24 W73 nd2
        have fc81 := f_80
        obtain ⟨cl81, Ar81, qk81, S81, N81', H81, G81⟩ := fc81
        have hin81 : ¬ (rr68 < 0 ∨ cl81.slots.size ≤ (rr68).toNatClampNeg) := inb_of S81 ⟨own_lt (by rw [show (0 : Int32).toInt = 0 from rfl]; omega), own_lt' (by rw [show (100 : Int32).toInt = 100 from rfl]; omega)⟩
        have hat81 : cl81.slots[(rr68).toNatClampNeg]? = some (.int (Int32.ofNat (48 + m0 % 100 / 10))) := Has.at H81 hin81 (by rw [hrN68]; exact own_tensAt (by omega) _)
        refine Good.back (X79.baloadBytes hx (j := rr68) (v := (.int (Int32.ofNat (48 + m0 % 100 / 10)))) (by rw [e79]; exact Ar81.1) (State.isArrayOf_alike hZ.alike Ar81.2.1) Ar81.2.2 hin81 hat81 (g := (mkF m 138 (a_JsIRuuI5 x0 p1 ar rr68 c77 fl y67 y67) [.int rr68, .ref d2, .int c77, .ref ar])) rfl rfl (hb hby k18_9.2.1.2)) ?_
        have fc82 := f_74
        obtain ⟨cl82, Ar82, qk82, S82, N82', H82, G82⟩ := fc82
        have hin82 : ¬ (c77 < 0 ∨ cl82.slots.size ≤ (c77).toNatClampNeg) := inb_of S82 ⟨own_lt (by rw [show (0 : Int32).toInt = 0 from rfl]; omega), own_lt' (by omega)⟩
        obtain ⟨T82, h82, X82, e82, W82, st82⟩ := stB X79 hx hZ e79 Ar82 (j := c77) hin82 (g := (mkF m 139 (a_JsIRuuI5 x0 p1 ar rr68 c77 fl y67 y67) [.int (Int32.ofNat (48 + m0 % 100 / 10)), .int c77, .ref ar])) rfl rfl (hb hby k18_9.2.2.1)
        refine Good.back st82 ?_
        have f_83 : Arv Z h82 ar kk .byte zc (own_buf bs (rk - 2) ((Int32.ofNat (48 + m0 % 100 / 10)) :: ((Int32.ofNat (48 + m0 % 100 % 10)) :: tk))) (.int 0) := (by have q := Arv.set Ar82 qk82 S82 N82' H82 G82 (fits_nar_byte _) W82 (bs.length + (rk - 2)) (by have := own_nat (z := c77) (by omega); omega) (by rw [own_bufLen]; omega); rw [own_b (by omega), own_st (r := rk - 2) (by omega) rfl] at q; exact q)
        have N82 := Fr.snoc X82 N73 ga
        have Z84 : n0 ≤ h82.size := Nat.le_trans Z75 (Keep.of_wr W82).1
        have K85 : Keep h0 h82 [ar] := K76.wr W82 (Or.inl (List.mem_of_getElem? (i := 0) rfl))
        have hjem69 : y67.toInt = -(m69 : Int) := by rw [em69]; exact hd67.1
        show Good p e below _ (T82.setTop (mkF m 140 (a_JsIRuuI5 x0 p1 ar rr68 c77 fl y67 y67) []))
        refine Good.back (fun _ k => XS.goto X82.here hx rfl (pc0 := 140) (pc' := 86) rfl (hb hby k18_9.2.2.2) (by decide) (by decide) k) ?_
        show Good p e below _ (T82.setTop (mkF m 86 (a_JsIRuuI5 x0 p1 ar rr68 c77 fl y67 y67) []))
        have f_86 : Sta Z h73 "java/lang/Integer" "DigitOnes" "[B" (.ref d1) := Sta.wr W73 Sa24
        have f_87 : Sta Z h82 "java/lang/Integer" "DigitOnes" "[B" (.ref d1) := Sta.wr W82 f_86
        have f_88 : Sta Z h82 "java/lang/Integer" "DigitTens" "[B" (.ref d2) := Sta.wr W82 f_78
        have f_89 : Arv Z h73 d1 kd1 .byte (100 : Int32) own_ones (.int 0) := Arv.other Va24 W73 nd1
        have f_90 : Arv Z h82 d1 kd1 .byte (100 : Int32) own_ones (.int 0) := Arv.other f_89 W82 nd1
        have f_91 : Arv Z h82 d2 kd2 .byte (100 : Int32) own_tens (.int 0) := Arv.other f_80 W82 nd2
        exact key86 ((m69 + 1)) x0 (.unset) (.unset) rr68 y67 y67 fl sg m69 ((rk - 2)) (((Int32.ofNat (48 + m0 % 100 / 10)) :: ((Int32.ofNat (48 + m0 % 100 % 10)) :: tk))) c77 h82 _ _ X82 N82 e82 (Z84) (K85) (f_83) (f_87) (f_88) (f_90) (f_91) (hsg) (hI69) (by omega) (by omega) (by rw [hc77]; omega) (hjem69) (by omega) (Nat.lt_succ_self _)
    · refine Good.back (fun _ k => XS.ifNo Xk24.here hx rfl (hb hby k18_2.1.2.1) rfl ((if0 _ _).trans (flt hc29_64).2.2.1) k) ?_
      refine Good.back (fun _ k => XS.lloadN Xk24.here hx rfl (hb hby k18_2.1.2.2) rfl k) ?_
      refine Good.back (Xk24.ldc2Long hx hown (mvT hZ (wd hw 281 rfl)) (g := (mkF m 33 (a_JsIRu3IIuu x0 p1 ar c0 fl) [.long x0])) rfl (hb hby k18_2.2.1.1)) ?_
      refine Good.back (fun _ k => XS.ldiv Xk24.here hx rfl (hb hby k18_2.2.1.2) rfl (by decide) k) ?_
      have w92 : ¬ ((-2147483648 : Int64) < x0) := fun q => hc29_64 ((lw_gt _ _).mpr q)
      rw [Int64.lt_iff_toInt_lt, hx0, show (-2147483648 : Int64).toInt = -2147483648 from rfl] at w92
      have hd92 := own_ldiv hx0 hm0
      show Good p e below _ (Tk24.setTop (mkF m 37 (a_JsIRu3IIuu x0 p1 ar c0 fl) [.long (x0 / (100 : Int64))]))
      obtain ⟨y92, ey92⟩ : ∃ z, z = (x0 / (100 : Int64)) := ⟨_, rfl⟩
      rw [← ey92] at hd92 ⊢
      show Good p e below _ (Tk24.setTop (mkF m 37 (a_JsIRu3IIuu x0 p1 ar c0 fl) [.long y92]))
      refine Good.back (fun _ k => XS.lstore Xk24.here hx rfl (hb hby k18_2.2.2.1) rfl (l' := (a_JsIRJsuIIuu x0 p1 ar y92 c0 fl)) rfl k) ?_
      refine Good.back (fun _ k => XS.lload Xk24.here hx rfl (hb hby k18_2.2.2.2) rfl k) ?_
      refine Good.back (Xk24.ldc2Long hx hown (mvT hZ (wd hw 281 rfl)) (g := (mkF m 41 (a_JsIRJsuIIuu x0 p1 ar y92 c0 fl) [.long y92])) rfl (hb hby k18_3.1.1.1)) ?_
      refine Good.back (fun _ k => XS.lmul Xk24.here hx rfl (hb hby k18_3.1.1.2) rfl k) ?_
      refine Good.back (fun _ k => XS.lloadN Xk24.here hx rfl (hb hby k18_3.1.2.1) rfl k) ?_
      refine Good.back (fun _ k => XS.lsub Xk24.here hx rfl (hb hby k18_3.1.2.2) rfl k) ?_
      refine Good.back (fun _ k => XS.l2i Xk24.here hx rfl (hb hby k18_3.2.1.1) rfl k) ?_
      show Good p e below _ (Tk24.setTop (mkF m 48 (a_JsIRJsuIIuu x0 p1 ar y92 c0 fl) [.int (((y92 * (100 : Int64)) - x0).toInt32)]))
      obtain ⟨rr93, er93⟩ : ∃ z, z = (((y92 * (100 : Int64)) - x0).toInt32) := ⟨_, rfl⟩
      rw [← er93]
      have hr93 : rr93.toInt = ((m0 % 100 : Nat) : Int) := by rw [er93]; exact hd92.2
      have hrN93 : rr93.toNatClampNeg = m0 % 100 := by have := own_nat (z := rr93) (by omega); omega
      have hI94 : own_sd q0 = sg ++ (own_dg (m0 / 100) ++ (Int32.ofNat (48 + m0 % 100 / 10) :: Int32.ofNat (48 + m0 % 100 % 10) :: tk)) := by rw [hI0, own_dg100 (m := m0) (by omega)]; simp
      have hl94 : (own_dg m0).length = (own_dg (m0 / 100)).length + 2 := by rw [own_dg100 (m := m0) (by omega)]; simp
      obtain ⟨m94, em94⟩ : ∃ z, z = m0 / 100 := ⟨_, rfl⟩
      rw [← em94] at hI94 hl94
      have hP94 := own_dgPos m94
      show Good p e below _ (Tk24.setTop (mkF m 48 (a_JsIRJsuIIuu x0 p1 ar y92 c0 fl) [.int rr93]))
      refine Good.back (fun _ k => XS.istore Xk24.here hx rfl (hb hby k18_3.2.1.2) rfl (l' := (a_JsIRJsI3uu x0 p1 ar y92 rr93 c0 fl)) rfl k) ?_
      refine Good.back (fun _ k => XS.lload Xk24.here hx rfl (hb hby k18_3.2.2.1) rfl k) ?_
      refine Good.back (fun _ k => XS.lstoreN Xk24.here hx rfl (hb hby k18_3.2.2.2) rfl (l' := (a_JsIRJsI3uu y92 p1 ar y92 rr93 c0 fl)) rfl k) ?_
      refine Good.back (fun _ k => XS.aloadN Xk24.here hx rfl (hb hby k18_4.1.1.1) rfl rfl k) ?_
      refine Good.back (fun _ k => XS.iinc Xk24.here hx rfl (hb hby k18_4.1.1.2) rfl (l' := (a_JsIRJsI3uu y92 p1 ar y92 rr93 (c0 + (-1 : Int32)) fl)) rfl k) ?_
      show Good p e below _ (Tk24.setTop (mkF m 57 (a_JsIRJsI3uu y92 p1 ar y92 rr93 (c0 + (-1 : Int32)) fl) [.ref ar]))
      have hc95 := own_dec hc0 (by omega)
      obtain ⟨c95, ec95⟩ : ∃ z, z = (c0 + (-1 : Int32)) := ⟨_, rfl⟩
      rw [← ec95] at hc95 ⊢
      show Good p e below _ (Tk24.setTop (mkF m 57 (a_JsIRJsI3uu y92 p1 ar y92 rr93 c95 fl) [.ref ar]))
      refine Good.back (fun _ k => XS.iload Xk24.here hx rfl (hb hby k18_4.1.2.1) rfl k) ?_
      obtain ⟨T96, X96, e96, st96⟩ := getS2 Xk24 hx hZ hown (host := "") (Or.inl (wd hw 117 rfl)) Via.refl ek24 Sa24 (g := (mkF m 59 (a_JsIRJsI3uu y92 p1 ar y92 rr93 c95 fl) [.int c95, .ref ar])) rfl (hb hby k18_4.1.2.2)
      refine Good.back st96 ?_
      refine Good.back (fun _ k => XS.iload X96.here hx rfl (hb hby k18_4.2.1.1) rfl k) ?_
      have fc97 := Va24
      obtain ⟨cl97, Ar97, qk97, S97, N97', H97, G97⟩ := fc97
      have hin97 : ¬ (rr93 < 0 ∨ cl97.slots.size ≤ (rr93).toNatClampNeg) := inb_of S97 ⟨own_lt (by rw [show (0 : Int32).toInt = 0 from rfl]; omega), own_lt' (by rw [show (100 : Int32).toInt = 100 from rfl]; omega)⟩
      have hat97 : cl97.slots[(rr93).toNatClampNeg]? = some (.int (Int32.ofNat (48 + m0 % 100 % 10))) := Has.at H97 hin97 (by rw [hrN93]; exact own_onesAt (by omega) _)
      refine Good.back (X96.baloadBytes hx (j := rr93) (v := (.int (Int32.ofNat (48 + m0 % 100 % 10)))) (by rw [e96]; exact Ar97.1) (State.isArrayOf_alike hZ.alike Ar97.2.1) Ar97.2.2 hin97 hat97 (g := (mkF m 64 (a_JsIRJsI3uu y92 p1 ar y92 rr93 c95 fl) [.int rr93, .ref d1, .int c95, .ref ar])) rfl rfl (hb hby k18_4.2.1.2)) ?_
      have fc98 := Vk24
      obtain ⟨cl98, Ar98, qk98, S98, N98', H98, G98⟩ := fc98
      have hin98 : ¬ (c95 < 0 ∨ cl98.slots.size ≤ (c95).toNatClampNeg) := inb_of S98 ⟨own_lt (by rw [show (0 : Int32).toInt = 0 from rfl]; omega), own_lt' (by omega)⟩
      obtain ⟨T98, h98, X98, e98, W98, st98⟩ := stB X96 hx hZ e96 Ar98 (j := c95) hin98 (g := (mkF m 65 (a_JsIRJsI3uu y92 p1 ar y92 rr93 c95 fl) [.int (Int32.ofNat (48 + m0 % 100 % 10)), .int c95, .ref ar])) rfl rfl (hb hby k18_4.2.2.1)
      refine Good.back st98 ?_
      have f_99 : Arv Z h98 ar kk .byte zc (own_buf bs (rk - 1) ((Int32.ofNat (48 + m0 % 100 % 10)) :: tk)) (.int 0) := (by have q := Arv.set Ar98 qk98 S98 N98' H98 G98 (fits_nar_byte _) W98 (bs.length + (rk - 1)) (by have := own_nat (z := c95) (by omega); omega) (by rw [own_bufLen]; omega); rw [own_b (by omega), own_st (r := rk - 1) (by omega) rfl] at q; exact q)
      have N98 := Fr.snoc X98 Nk24 ga
      have Z100 : n0 ≤ h98.size := Nat.le_trans Zk24 (Keep.of_wr W98).1
      have K101 : Keep h0 h98 [ar] := Kk24.wr W98 (Or.inl (List.mem_of_getElem? (i := 0) rfl))
      refine Good.back (fun _ k => XS.aloadN X98.here hx rfl (hb hby k18_4.2.2.2) rfl rfl k) ?_
      refine Good.back (fun _ k => XS.iinc X98.here hx rfl (hb hby k18_5.1.1.1) rfl (l' := (a_JsIRJsI3uu y92 p1 ar y92 rr93 (c95 + (-1 : Int32)) fl)) rfl k) ?_
      show Good p e below _ (T98.setTop (mkF m 70 (a_JsIRJsI3uu y92 p1 ar y92 rr93 (c95 + (-1 : Int32)) fl) [.ref ar]))
      have hc102 := own_dec hc95 (by omega)
      obtain ⟨c102, ec102⟩ : ∃ z, z = (c95 + (-1 : Int32)) := ⟨_, rfl⟩
      rw [← ec102] at hc102 ⊢
      show Good p e below _ (T98.setTop (mkF m 70 (a_JsIRJsI3uu y92 p1 ar y92 rr93 c102 fl) [.ref ar]))
      refine Good.back (fun _ k => XS.iload X98.here hx rfl (hb hby k18_5.1.1.2) rfl k) ?_
      have f_103 : Sta Z h98 "java/lang/Integer" "DigitTens" "[B" (.ref d2) := Sta.wr W98 Sb24
      obtain ⟨T104, X104, e104, st104⟩ := getS2 X98 hx hZ hown (host := "") (Or.inl (wd hw 273 rfl)) Via.refl e98 f_103 (g := (mkF m 72 (a_JsIRJsI3uu y92 p1 ar y92 rr93 c102 fl) [.int c102, .ref ar])) rfl (hb hby k18_5.1.2.1)
      refine Good.back st104 ?_
      refine Good.back (fun _ k => XS.iload X104.here hx rfl (hb hby k18_5.1.2.2) rfl k) ?_
      have f_105 : Arv Z h98 d2 kd2 .byte (100 : Int32) own_tens (.int 0) := Arv.other Vb24 W98 nd2
      have fc106 := f_105
      obtain ⟨cl106, Ar106, qk106, S106, N106', H106, G106⟩ := fc106
      have hin106 : ¬ (rr93 < 0 ∨ cl106.slots.size ≤ (rr93).toNatClampNeg) := inb_of S106 ⟨own_lt (by rw [show (0 : Int32).toInt = 0 from rfl]; omega), own_lt' (by rw [show (100 : Int32).toInt = 100 from rfl]; omega)⟩
      have hat106 : cl106.slots[(rr93).toNatClampNeg]? = some (.int (Int32.ofNat (48 + m0 % 100 / 10))) := Has.at H106 hin106 (by rw [hrN93]; exact own_tensAt (by omega) _)
      refine Good.back (X104.baloadBytes hx (j := rr93) (v := (.int (Int32.ofNat (48 + m0 % 100 / 10)))) (by rw [e104]; exact Ar106.1) (State.isArrayOf_alike hZ.alike Ar106.2.1) Ar106.2.2 hin106 hat106 (g := (mkF m 77 (a_JsIRJsI3uu y92 p1 ar y92 rr93 c102 fl) [.int rr93, .ref d2, .int c102, .ref ar])) rfl rfl (hb hby k18_5.2.1.1)) ?_
      have fc107 := f_99
      obtain ⟨cl107, Ar107, qk107, S107, N107', H107, G107⟩ := fc107
      have hin107 : ¬ (c102 < 0 ∨ cl107.slots.size ≤ (c102).toNatClampNeg) := inb_of S107 ⟨own_lt (by rw [show (0 : Int32).toInt = 0 from rfl]; omega), own_lt' (by omega)⟩
      obtain ⟨T107, h107, X107, e107, W107, st107⟩ := stB X104 hx hZ e104 Ar107 (j := c102) hin107 (g := (mkF m 78 (a_JsIRJsI3uu y92 p1 ar y92 rr93 c102 fl) [.int (Int32.ofNat (48 + m0 % 100 / 10)), .int c102, .ref ar])) rfl rfl (hb hby k18_5.2.1.2)
      refine Good.back st107 ?_
      have f_108 : Arv Z h107 ar kk .byte zc (own_buf bs (rk - 2) ((Int32.ofNat (48 + m0 % 100 / 10)) :: ((Int32.ofNat (48 + m0 % 100 % 10)) :: tk))) (.int 0) := (by have q := Arv.set Ar107 qk107 S107 N107' H107 G107 (fits_nar_byte _) W107 (bs.length + (rk - 2)) (by have := own_nat (z := c102) (by omega); omega) (by rw [own_bufLen]; omega); rw [own_b (by omega), own_st (r := rk - 2) (by omega) rfl] at q; exact q)
      have N107 := Fr.snoc X107 N98 ga
      have Z109 : n0 ≤ h107.size := Nat.le_trans Z100 (Keep.of_wr W107).1
      have K110 : Keep h0 h107 [ar] := K101.wr W107 (Or.inl (List.mem_of_getElem? (i := 0) rfl))
      have hxem94 : y92.toInt = -(m94 : Int) := by rw [em94]; exact hd92.1
      show Good p e below _ (T107.setTop (mkF m 79 (a_JsIRJsI3uu y92 p1 ar y92 rr93 c102 fl) []))
      refine Good.back (fun _ k => XS.goto X107.here hx rfl (pc0 := 79) (pc' := 24) rfl (hb hby k18_5.2.2.1) (by decide) (by decide) k) ?_
      show Good p e below _ (T107.setTop (mkF m 24 (a_JsIRJsI3uu y92 p1 ar y92 rr93 c102 fl) []))
      refine Good.back (fun _ k => XS.lloadN X107.here hx rfl (hb hby k18_1.2.2.2) rfl k) ?_
      refine Good.back (X107.ldc2Long hx hown (mvT hZ (wd hw 116 rfl)) (g := (mkF m 25 (a_JsIRJsI3uu y92 p1 ar y92 rr93 c102 fl) [.long y92])) rfl (hb hby k18_2.1.1.1)) ?_
      refine Good.back (fun _ k => XS.lcmp X107.here hx rfl (hb hby k18_2.1.1.2) rfl k) ?_
      show Good p e below _ (T107.setTop (mkF m 29 (a_JsIRJsI3uu y92 p1 ar y92 rr93 c102 fl) [.int (lcmpW y92 (-2147483648 : Int64))]))
      refine Good.back (fun _ k => XS.ifYes X107.here hx rfl (pc0 := 29) (pc' := 82) rfl (hb hby k18_2.1.2.1) rfl ((if0 _ _).trans (tlt ((lw_gt _ _).mpr (by rw [Int64.lt_iff_toInt_lt, hxem94, show (-2147483648 : Int64).toInt = -2147483648 from rfl]; omega))).2.2.1) (by decide) (by decide) k) ?_
      refine Good.back (fun _ k => XS.lloadN X107.here hx rfl (hb hby k18_5.2.2.2) rfl k) ?_
      refine Good.back (fun _ k => XS.l2i X107.here hx rfl (hb hby k18_6.1.1.1) rfl k) ?_
      have hj111 := own_l2i hxem94 (by omega)
      show Good p e below _ (T107.setTop (mkF m 84 (a_JsIRJsI3uu y92 p1 ar y92 rr93 c102 fl) [.int (y92.toInt32)]))
      obtain ⟨j111, ej111⟩ : ∃ z, z = (y92.toInt32) := ⟨_, rfl⟩
      rw [← ej111] at hj111 ⊢
      show Good p e below _ (T107.setTop (mkF m 84 (a_JsIRJsI3uu y92 p1 ar y92 rr93 c102 fl) [.int j111]))
      refine Good.back (fun _ k => XS.istore X107.here hx rfl (hb hby k18_6.1.1.2) rfl (l' := (a_JsIRJsI3uI y92 p1 ar y92 rr93 c102 fl j111)) rfl k) ?_
      show Good p e below _ (T107.setTop (mkF m 86 (a_JsIRJsI3uI y92 p1 ar y92 rr93 c102 fl j111) []))
      refine Good.back (fun _ k => XS.iload X107.here hx rfl (hb hby k18_6.1.2.1) rfl k) ?_
      refine Good.back (fun _ k => XS.bipush X107.here hx rfl (hb hby k18_6.1.2.2) k) ?_
      show Good p e below _ (T107.setTop (mkF m 90 (a_JsIRJsI3uI y92 p1 ar y92 rr93 c102 fl j111) [.int (-100 : Int32), .int j111]))
      refine Good.back (fun _ k => XS.icmpNo X107.here hx rfl (hb hby k18_6.2.1.1) rfl (flt (own_lt (by rw [hj111, show (-100 : Int32).toInt = -100 from rfl]; omega))).2.2.1 k) ?_
      refine Good.back (fun _ k => XS.iload X107.here hx rfl (hb hby k18_6.2.1.2) rfl k) ?_
      refine Good.back (fun _ k => XS.bipush X107.here hx rfl (hb hby k18_6.2.2.1) k) ?_
      refine Good.back (fun _ k => XS.idiv X107.here hx rfl (hb hby k18_6.2.2.2) rfl (by decide) k) ?_
      have hd112 := own_div hj111 (by omega)
      show Good p e below _ (T107.setTop (mkF m 98 (a_JsIRJsI3uI y92 p1 ar y92 rr93 c102 fl j111) [.int (j111 / (100 : Int32))]))
      obtain ⟨y112, ey112⟩ : ∃ z, z = (j111 / (100 : Int32)) := ⟨_, rfl⟩
      rw [← ey112] at hd112 ⊢
      show Good p e below _ (T107.setTop (mkF m 98 (a_JsIRJsI3uI y92 p1 ar y92 rr93 c102 fl j111) [.int y112]))
      refine Good.back (fun _ k => XS.istore X107.here hx rfl (hb hby k18_7.1.1.1) rfl (l' := (a_JsIRJsI5 y92 p1 ar y92 rr93 c102 fl y112 j111)) rfl k) ?_
      refine Good.back (fun _ k => XS.iload X107.here hx rfl (hb hby k18_7.1.1.2) rfl k) ?_
      refine Good.back (fun _ k => XS.bipush X107.here hx rfl (hb hby k18_7.1.2.1) k) ?_
      refine Good.back (fun _ k => XS.imul X107.here hx rfl (hb hby k18_7.1.2.2) rfl k) ?_
      refine Good.back (fun _ k => XS.iload X107.here hx rfl (hb hby k18_7.2.1.1) rfl k) ?_
      refine Good.back (fun _ k => XS.isub X107.here hx rfl (hb hby k18_7.2.1.2) rfl k) ?_
      show Good p e below _ (T107.setTop (mkF m 108 (a_JsIRJsI5 y92 p1 ar y92 rr93 c102 fl y112 j111) [.int ((y112 * (100 : Int32)) - j111)]))
      obtain ⟨rr113, er113⟩ : ∃ z, z = ((y112 * (100 : Int32)) - j111) := ⟨_, rfl⟩
      rw [← er113]
      have hr113 : rr113.toInt = ((m94 % 100 : Nat) : Int) := by rw [er113]; exact hd112.2
      have hrN113 : rr113.toNatClampNeg = m94 % 100 := by have := own_nat (z := rr113) (by omega); omega
      have hI114 : own_sd q0 = sg ++ (own_dg (m94 / 100) ++ (Int32.ofNat (48 + m94 % 100 / 10) :: Int32.ofNat (48 + m94 % 100 % 10) :: ((Int32.ofNat (48 + m0 % 100 / 10)) :: ((Int32.ofNat (48 + m0 % 100 % 10)) :: tk)))) := by rw [hI94, own_dg100 (m := m94) (by omega)]; simp
      have hl114 : (own_dg m94).length = (own_dg (m94 / 100)).length + 2 := by rw [own_dg100 (m := m94) (by omega)]; simp
      obtain ⟨m114, em114⟩ : ∃ z, z = m94 / 100 := ⟨_, rfl⟩
      rw [← em114] at hI114 hl114
      have hP114 := own_dgPos m114
      show Good p e below _ (T107.setTop (mkF m 108 (a_JsIRJsI5 y92 p1 ar y92 rr93 c102 fl y112 j111) [.int rr113]))
      refine Good.back (fun _ k => XS.istore X107.here hx rfl (hb hby k18_7.2.2.1) rfl (l' := (a_JsIRJsI5 y92 p1 ar y92 rr113 c102 fl y112 j111)) rfl k) ?_
      refine Good.back (fun _ k => XS.iload X107.here hx rfl (hb hby k18_7.2.2.2) rfl k) ?_
      refine Good.back (fun _ k => XS.istore X107.here hx rfl (hb hby k18_8.1.1.1) rfl (l' := (a_JsIRJsI5 y92 p1 ar y92 rr113 c102 fl y112 y112)) rfl k) ?_
      refine Good.back (fun _ k => XS.aloadN X107.here hx rfl (hb hby k18_8.1.1.2) rfl rfl k) ?_
      refine Good.back (fun _ k => XS.iinc X107.here hx rfl (hb hby k18_8.1.2.1) rfl (l' := (a_JsIRJsI5 y92 p1 ar y92 rr113 (c102 + (-1 : Int32)) fl y112 y112)) rfl k) ?_
      show Good p e below _ (T107.setTop (mkF m 118 (a_JsIRJsI5 y92 p1 ar y92 rr113 (c102 + (-1 : Int32)) fl y112 y112) [.ref ar]))
      have hc115 := own_dec hc102 (by omega)
      obtain ⟨c115, ec115⟩ : ∃ z, z = (c102 + (-1 : Int32)) := ⟨_, rfl⟩
      rw [← ec115] at hc115 ⊢
      show Good p e below _ (T107.setTop (mkF m 118 (a_JsIRJsI5 y92 p1 ar y92 rr113 c115 fl y112 y112) [.ref ar]))
      refine Good.back (fun _ k => XS.iload X107.here hx rfl (hb hby k18_8.1.2.2) rfl k) ?_
      have f_116 : Sta Z h98 "java/lang/Integer" "DigitOnes" "[B" (.ref d1) := Sta.wr W98 Sa24
      have f_117 : Sta Z h107 "java/lang/Integer" "DigitOnes" "[B" (.ref d1) := Sta.wr W107 f_116
      obtain ⟨T118, X118, e118, st118⟩ := getS2 X107 hx hZ hown (host := "") (Or.inl (wd hw 117 rfl)) Via.refl e107 f_117 (g := (mkF m 120 (a_JsIRJsI5 y92 p1 ar y92 rr113 c115 fl y112 y112) [.int c115, .ref ar])) rfl (hb hby k18_8.2.1.1)
      refine Good.back st118 ?_
      refine Good.back (fun _ k => XS.iload X118.here hx rfl (hb hby k18_8.2.1.2) rfl k) ?_
      have f_119 : Arv Z h98 d1 kd1 .byte (100 : Int32) own_ones (.int 0) := Arv.other Va24 W98 nd1
      have f_120 : Arv Z h107 d1 kd1 .byte (100 : Int32) own_ones (.int 0) := Arv.other f_119 W107 nd1
      have fc121 := f_120
      obtain ⟨cl121, Ar121, qk121, S121, N121', H121, G121⟩ := fc121
      have hin121 : ¬ (rr113 < 0 ∨ cl121.slots.size ≤ (rr113).toNatClampNeg) := inb_of S121 ⟨own_lt (by rw [show (0 : Int32).toInt = 0 from rfl]; omega), own_lt' (by rw [show (100 : Int32).toInt = 100 from rfl]; omega)⟩
      have hat121 : cl121.slots[(rr113).toNatClampNeg]? = some (.int (Int32.ofNat (48 + m94 % 100 % 10))) := Has.at H121 hin121 (by rw [hrN113]; exact own_onesAt (by omega) _)
      refine Good.back (X118.baloadBytes hx (j := rr113) (v := (.int (Int32.ofNat (48 + m94 % 100 % 10)))) (by rw [e118]; exact Ar121.1) (State.isArrayOf_alike hZ.alike Ar121.2.1) Ar121.2.2 hin121 hat121 (g := (mkF m 125 (a_JsIRJsI5 y92 p1 ar y92 rr113 c115 fl y112 y112) [.int rr113, .ref d1, .int c115, .ref ar])) rfl rfl (hb hby k18_8.2.2.1)) ?_
      have fc122 := f_108
      obtain ⟨cl122, Ar122, qk122, S122, N122', H122, G122⟩ := fc122
      have hin122 : ¬ (c115 < 0 ∨ cl122.slots.size ≤ (c115).toNatClampNeg) := inb_of S122 ⟨own_lt (by rw [show (0 : Int32).toInt = 0 from rfl]; omega), own_lt' (by omega)⟩
      obtain ⟨T122, h122, X122, e122, W122, st122⟩ := stB X118 hx hZ e118 Ar122 (j := c115) hin122 (g := (mkF m 126 (a_JsIRJsI5 y92 p1 ar y92 rr113 c115 fl y112 y112) [.int (Int32.ofNat (48 + m94 % 100 % 10)), .int c115, .ref ar])) rfl rfl (hb hby k18_8.2.2.2)
      refine Good.back st122 ?_
      have f_123 : Arv Z h122 ar kk .byte zc (own_buf bs (rk - 3) ((Int32.ofNat (48 + m94 % 100 % 10)) :: ((Int32.ofNat (48 + m0 % 100 / 10)) :: ((Int32.ofNat (48 + m0 % 100 % 10)) :: tk)))) (.int 0) := (by have q := Arv.set Ar122 qk122 S122 N122' H122 G122 (fits_nar_byte _) W122 (bs.length + (rk - 3)) (by have := own_nat (z := c115) (by omega); omega) (by rw [own_bufLen]; omega); rw [own_b (by omega), own_st (r := rk - 3) (by omega) rfl] at q; exact q)
      have N122 := Fr.snoc X122 N107 ga
      have Z124 : n0 ≤ h122.size := Nat.le_trans Z109 (Keep.of_wr W122).1
      have K125 : Keep h0 h122 [ar] := K110.wr W122 (Or.inl (List.mem_of_getElem? (i := 0) rfl))
      refine Good.back (fun _ k => XS.aloadN X122.here hx rfl (hb hby k18_9.1.1.1) rfl rfl k) ?_
      refine Good.back (fun _ k => XS.iinc X122.here hx rfl (hb hby k18_9.1.1.2) rfl (l' := (a_JsIRJsI5 y92 p1 ar y92 rr113 (c115 + (-1 : Int32)) fl y112 y112)) rfl k) ?_
      show Good p e below _ (T122.setTop (mkF m 131 (a_JsIRJsI5 y92 p1 ar y92 rr113 (c115 + (-1 : Int32)) fl y112 y112) [.ref ar]))
      have hc126 := own_dec hc115 (by omega)
      obtain ⟨c126, ec126⟩ : ∃ z, z = (c115 + (-1 : Int32)) := ⟨_, rfl⟩
      rw [← ec126] at hc126 ⊢
      show Good p e below _ (T122.setTop (mkF m 131 (a_JsIRJsI5 y92 p1 ar y92 rr113 c126 fl y112 y112) [.ref ar]))
      refine Good.back (fun _ k => XS.iload X122.here hx rfl (hb hby k18_9.1.2.1) rfl k) ?_
      have f_127 : Sta Z h107 "java/lang/Integer" "DigitTens" "[B" (.ref d2) := Sta.wr W107 f_103
      have f_128 : Sta Z h122 "java/lang/Integer" "DigitTens" "[B" (.ref d2) := Sta.wr W122 f_127
      obtain ⟨T129, X129, e129, st129⟩ := getS2 X122 hx hZ hown (host := "") (Or.inl (wd hw 273 rfl)) Via.refl e122 f_128 (g := (mkF m 133 (a_JsIRJsI5 y92 p1 ar y92 rr113 c126 fl y112 y112) [.int c126, .ref ar])) rfl (hb hby k18_9.1.2.2)
      refine Good.back st129 ?_
      refine Good.back (fun _ k => XS.iload X129.here hx rfl (hb hby k18_9.2.1.1) rfl k) ?_
      have f_130 : Arv Z h107 d2 kd2 .byte (100 : Int32) own_tens (.int 0) := Arv.other f_105 W107 nd2
      have f_131 : Arv Z h122 d2 kd2 .byte (100 : Int32) own_tens (.int 0) := Arv.other f_130 W122 nd2
      have fc132 := f_131
      obtain ⟨cl132, Ar132, qk132, S132, N132', H132, G132⟩ := fc132
      have hin132 : ¬ (rr113 < 0 ∨ cl132.slots.size ≤ (rr113).toNatClampNeg) := inb_of S132 ⟨own_lt (by rw [show (0 : Int32).toInt = 0 from rfl]; omega), own_lt' (by rw [show (100 : Int32).toInt = 100 from rfl]; omega)⟩
      have hat132 : cl132.slots[(rr113).toNatClampNeg]? = some (.int (Int32.ofNat (48 + m94 % 100 / 10))) := Has.at H132 hin132 (by rw [hrN113]; exact own_tensAt (by omega) _)
      refine Good.back (X129.baloadBytes hx (j := rr113) (v := (.int (Int32.ofNat (48 + m94 % 100 / 10)))) (by rw [e129]; exact Ar132.1) (State.isArrayOf_alike hZ.alike Ar132.2.1) Ar132.2.2 hin132 hat132 (g := (mkF m 138 (a_JsIRJsI5 y92 p1 ar y92 rr113 c126 fl y112 y112) [.int rr113, .ref d2, .int c126, .ref ar])) rfl rfl (hb hby k18_9.2.1.2)) ?_
      have fc133 := f_123
      obtain ⟨cl133, Ar133, qk133, S133, N133', H133, G133⟩ := fc133
      have hin133 : ¬ (c126 < 0 ∨ cl133.slots.size ≤ (c126).toNatClampNeg) := inb_of S133 ⟨own_lt (by rw [show (0 : Int32).toInt = 0 from rfl]; omega), own_lt' (by omega)⟩
      obtain ⟨T133, h133, X133, e133, W133, st133⟩ := stB X129 hx hZ e129 Ar133 (j := c126) hin133 (g := (mkF m 139 (a_JsIRJsI5 y92 p1 ar y92 rr113 c126 fl y112 y112) [.int (Int32.ofNat (48 + m94 % 100 / 10)), .int c126, .ref ar])) rfl rfl (hb hby k18_9.2.2.1)
      refine Good.back st133 ?_
      have f_134 : Arv Z h133 ar kk .byte zc (own_buf bs (rk - 4) ((Int32.ofNat (48 + m94 % 100 / 10)) :: ((Int32.ofNat (48 + m94 % 100 % 10)) :: ((Int32.ofNat (48 + m0 % 100 / 10)) :: ((Int32.ofNat (48 + m0 % 100 % 10)) :: tk))))) (.int 0) := (by have q := Arv.set Ar133 qk133 S133 N133' H133 G133 (fits_nar_byte _) W133 (bs.length + (rk - 4)) (by have := own_nat (z := c126) (by omega); omega) (by rw [own_bufLen]; omega); rw [own_b (by omega), own_st (r := rk - 4) (by omega) rfl] at q; exact q)
      have N133 := Fr.snoc X133 N122 ga
      have Z135 : n0 ≤ h133.size := Nat.le_trans Z124 (Keep.of_wr W133).1
      have K136 : Keep h0 h133 [ar] := K125.wr W133 (Or.inl (List.mem_of_getElem? (i := 0) rfl))
      have hjem114 : y112.toInt = -(m114 : Int) := by rw [em114]; exact hd112.1
      show Good p e below _ (T133.setTop (mkF m 140 (a_JsIRJsI5 y92 p1 ar y92 rr113 c126 fl y112 y112) []))
      refine Good.back (fun _ k => XS.goto X133.here hx rfl (pc0 := 140) (pc' := 86) rfl (hb hby k18_9.2.2.2) (by decide) (by decide) k) ?_
      show Good p e below _ (T133.setTop (mkF m 86 (a_JsIRJsI5 y92 p1 ar y92 rr113 c126 fl y112 y112) []))
      have f_137 : Sta Z h122 "java/lang/Integer" "DigitOnes" "[B" (.ref d1) := Sta.wr W122 f_117
      have f_138 : Sta Z h133 "java/lang/Integer" "DigitOnes" "[B" (.ref d1) := Sta.wr W133 f_137
      have f_139 : Sta Z h133 "java/lang/Integer" "DigitTens" "[B" (.ref d2) := Sta.wr W133 f_128
      have f_140 : Arv Z h122 d1 kd1 .byte (100 : Int32) own_ones (.int 0) := Arv.other f_120 W122 nd1
      have f_141 : Arv Z h133 d1 kd1 .byte (100 : Int32) own_ones (.int 0) := Arv.other f_140 W133 nd1
      have f_142 : Arv Z h133 d2 kd2 .byte (100 : Int32) own_tens (.int 0) := Arv.other f_131 W133 nd2
      exact key86 ((m114 + 1)) y92 ((.val (.long y92))) (.second) rr113 y112 y112 fl sg m114 ((rk - 4)) (((Int32.ofNat (48 + m94 % 100 / 10)) :: ((Int32.ofNat (48 + m94 % 100 % 10)) :: ((Int32.ofNat (48 + m0 % 100 / 10)) :: ((Int32.ofNat (48 + m0 % 100 % 10)) :: tk))))) c126 h133 _ _ X133 N133 e133 (Z135) (K136) (f_134) (f_138) (f_139) (f_141) (f_142) (hsg) (hI114) (by omega) (by omega) (by rw [hc126]; omega) (hjem114) (by omega) (Nat.lt_succ_self _)
  show Good p e below _ (s₁.setTop (mkF m 3 (a_JsIRu3Iu3 q0 p1 ar p1) []))
  refine Good.back (fun _ k => XS.lloadN X0.here hx rfl (hb hby k18_0.1.2.1) rfl k) ?_
  refine Good.back (fun _ k => XS.lconst X0.here hx rfl (hb hby k18_0.1.2.2) k) ?_
  refine Good.back (fun _ k => XS.lcmp X0.here hx rfl (hb hby k18_0.2.1.1) rfl k) ?_
  by_cases hc6_143 : (lcmpW q0 (0 : Int64)) < (0 : Int32)
  · refine Good.back (fun _ k => XS.ifNo X0.here hx rfl (hb hby k18_0.2.1.2) rfl ((if0 _ _).trans (tlt hc6_143).2.1) k) ?_
    refine Good.back (fun _ k => XS.iconst X0.here hx rfl (hb hby k18_0.2.2.1) k) ?_
    refine Good.back (fun _ k => XS.goto X0.here hx rfl (pc0 := 10) (pc' := 14) rfl (hb hby k18_0.2.2.2) (by decide) (by decide) k) ?_
    show Good p e below _ (s₁.setTop (mkF m 14 (a_JsIRu3Iu3 q0 p1 ar p1) [.int 1]))
    refine Good.back (fun _ k => XS.istore X0.here hx rfl (hb hby k18_1.1.1.2) rfl (l' := (a_JsIRu3IIuu q0 p1 ar p1 1)) rfl k) ?_
    refine Good.back (fun _ k => XS.iload X0.here hx rfl (hb hby k18_1.1.2.1) rfl k) ?_
    refine Good.back (fun _ k => XS.ifYes X0.here hx rfl (pc0 := 18) (pc' := 24) rfl (hb hby k18_1.1.2.2) rfl ((if0 _ _).trans (feq (by decide : ¬ ((1 : Int32) = (0 : Int32)))).2) (by decide) (by decide) k) ?_
    show Good p e below _ (s₁.setTop (mkF m 24 (a_JsIRu3IIuu q0 p1 ar p1 1) []))
    exact key24 q0 ((1 : Int32)) [45] (-q0.toInt).toNat ((own_sd q0).length) [] p1 h0 _ _ X0 N0 e0 (Z0) (KR) (f_1) (S_d1) (S_d2) (V_d1) (V_d2) (Or.inr ⟨rfl, rfl⟩) (by rw [own_sdN (own_lneg0 hc6_143) (show q0.toInt = -(((-q0.toInt).toNat : Nat) : Int) by have := own_lneg0 hc6_143; omega)]; simp) (by rw [own_sdN (own_lneg0 hc6_143) (show q0.toInt = -(((-q0.toInt).toNat : Nat) : Int) by have := own_lneg0 hc6_143; omega)]; simp [Nat.add_comm]) (hft) (hp) (by have := own_lneg0 hc6_143; omega) (by omega)
  · refine Good.back (fun _ k => XS.ifYes X0.here hx rfl (pc0 := 6) (pc' := 13) rfl (hb hby k18_0.2.1.2) rfl ((if0 _ _).trans (flt hc6_143).2.1) (by decide) (by decide) k) ?_
    refine Good.back (fun _ k => XS.iconst X0.here hx rfl (hb hby k18_1.1.1.1) k) ?_
    refine Good.back (fun _ k => XS.istore X0.here hx rfl (hb hby k18_1.1.1.2) rfl (l' := (a_JsIRu3IIuu q0 p1 ar p1 0)) rfl k) ?_
    show Good p e below _ (s₁.setTop (mkF m 16 (a_JsIRu3IIuu q0 p1 ar p1 0) []))
    refine Good.back (fun _ k => XS.iload X0.here hx rfl (hb hby k18_1.1.2.1) rfl k) ?_
    refine Good.back (fun _ k => XS.ifNo X0.here hx rfl (hb hby k18_1.1.2.2) rfl ((if0 _ _).trans (teq (by decide : ((0 : Int32) = (0 : Int32)))).2) k) ?_
    refine Good.back (fun _ k => XS.lloadN X0.here hx rfl (hb hby k18_1.2.1.1) rfl k) ?_
    refine Good.back (fun _ k => XS.lneg X0.here hx rfl (hb hby k18_1.2.1.2) rfl k) ?_
    refine Good.back (fun _ k => XS.lstoreN X0.here hx rfl (hb hby k18_1.2.2.1) rfl (l' := (a_JsIRu3IIuu (-q0) p1 ar p1 0)) rfl k) ?_
    show Good p e below _ (s₁.setTop (mkF m 24 (a_JsIRu3IIuu (-q0) p1 ar p1 0) []))
    exact key24 (-q0) ((0 : Int32)) [] q0.toInt.toNat ((own_sd q0).length) [] p1 h0 _ _ X0 N0 e0 (Z0) (KR) (f_1) (S_d1) (S_d2) (V_d1) (V_d2) (Or.inl ⟨rfl, rfl⟩) (by rw [own_sdP (show q0.toInt = ((q0.toInt.toNat : Nat) : Int) by have := (own_lnegM hc6_143 hv.2).1; omega)]; simp) (by rw [own_sdP (show q0.toInt = ((q0.toInt.toNat : Nat) : Int) by have := (own_lnegM hc6_143 hv.2).1; omega)]; simp) (hft) (hp) ((own_lnegM hc6_143 hv.2).2) (by omega)
abbrev B17 := jdk_68_method_68_code
theorem k17_0 : ((own_A B17 0 (.getstatic 18) 3 ∧ own_A B17 3 (.ifCond .eq 14) 3) ∧ own_A B17 6 (.aload_n 0) 1 ∧ own_A B17 7 (.getfield 22) 3) ∧ (own_A B17 10 (.ifCond .ne 7) 3 ∧ own_A B17 13 (.iconst 1) 1) ∧ own_A B17 14 (.goto 4) 3 ∧ own_A B17 18 .ireturn 1 := by decide +kernel
theorem own_ef_17 (m : MethodId) (x0 : Addr) : entryFrame m #[(.ref x0)] 1 = mkF m 0 #[.val (.ref x0)] [] := by first | (simp [entryFrame, mkF, argsToLocals, Value.category]; done) | rfl
def Q17 (Z : State) (r0 : Addr) (cs : Int32) (h0 : Heap) (n0 : Nat) (v : Option Value) (h : Heap) (L : List Loc) : Prop := v = some (.int 1) ∧ Fr n0 L ∧ h = h0
set_option maxRecDepth 65536 in
set_option maxHeartbeats 40000000 in
theorem rm17 (l : Launch) (Z : State) (a0 : Array Value) (hw : ∀ d ∈ tables_1, d.before a0 Z = true) (ws : List Jvm.Cond) (r0 : Addr) (cs : Int32) (h0 : Heap) (n0 : Nat) (Z0 : n0 ≤ h0.size) (S_cs : Sta Z h0 "java/lang/String" "COMPACT_STRINGS" "Z" (.int cs)) (hcs : ¬ (cs = (0 : Int32))) (Fk : Fld Z h0 r0 "java/lang/AbstractStringBuilder" "coder" "B" (.int 0)) :
    MetFree l y_15 (head1 (Jvm.Cond.code y_15 jdk_68_method_68_code 1 (some .boolean) :: ws) R_0) (fun a U => a = #[(.ref r0)] ∧ Z.Warmed39 U.vm ∧ U.heap = h0) (fun _ _ _ _ _ => True) (fun _ U o U' => ∃ v L, o = .returned v ∧ Q17 Z r0 cs h0 n0 v U'.heap L ∧ FrameEnd U o U' L R_0.cells R_0.slots) := by
  refine MetFree.of_bodySF (plainFor_of_name own_pn1) hisR ?_
  intro p e s m args below meth c s₁ Bd hml0 hP hK
  obtain ⟨rfl, hZ, hh⟩ := hP
  have hx := Bd.exec
  have hby := Bd.bytes
  have hml : c.maxLocals = 1 := hml0
  have hown : s.vm.findClass "java/lang/AbstractStringBuilder" = some m.cls := findClass_of_methodNamed Bd.named
  have hnm := (name_of_methodNamed Bd.named Bd.method).1
  have X0 : Stand p l e R_0 s m #[(.ref r0)] below meth c s₁ [] 0 0 := Stand.of_body Bd
  have e0 : s₁.heap = h0 := by rw [← hh, Bd.state]; rfl
  have N0 := Fr.nil n0
  show Good p e below (fun o U' => ∃ v L, o = .returned v ∧ Q17 Z r0 cs h0 n0 v U'.heap L ∧ FrameEnd s o U' L R_0.cells R_0.slots) _
  refine Good.back (S' := s₁.setTop (mkF m 0 #[.val (.ref r0)] [])) (fun t k => castTop (own_ef_17 m r0) k) ?_
  show Good p e below _ (s₁.setTop (mkF m 0 (a_R r0) []))
  obtain ⟨T1, X1, e1, st1⟩ := getS2 X0 hx hZ hown (host := "") (Or.inl (wd hw 29 rfl)) Via.refl e0 S_cs (g := (mkF m 0 (a_R r0) [])) rfl (hb hby k17_0.1.1.1)
  refine Good.back st1 ?_
  show Good p e below _ (T1.setTop (mkF m 3 (a_R r0) [.int cs]))
  refine Good.back (fun _ k => XS.ifNo X1.here hx rfl (hb hby k17_0.1.1.2) rfl ((if0 _ _).trans (feq hcs).1) k) ?_
  refine Good.back (fun _ k => XS.aloadN X1.here hx rfl (hb hby k17_0.1.2.1) rfl rfl k) ?_
  obtain ⟨T2, X2, e2, st2⟩ := getF X1 hx hZ hown (host := "") (Or.inl (wd hw 34 rfl)) Via.refl e1 Fk (g := (mkF m 7 (a_R r0) [.ref r0])) rfl rfl (hb hby k17_0.1.2.2)
  refine Good.back st2 ?_
  refine Good.back (fun _ k => XS.ifNo X2.here hx rfl (hb hby k17_0.2.1.1) rfl ((if0 _ _).trans (teq (by decide : ((0 : Int32) = (0 : Int32)))).2) k) ?_
  refine Good.back (fun _ k => XS.iconst X2.here hx rfl (hb hby k17_0.2.1.2) k) ?_
  refine Good.back (fun _ k => XS.goto X2.here hx rfl (pc0 := 14) (pc' := 18) rfl (hb hby k17_0.2.2.1) (by decide) (by decide) k) ?_
  show Good p e below _ (T2.setTop (mkF m 18 (a_R r0) [.int 1]))
  obtain ⟨fs3, hr3, hrun3, hended3, hW3, hsame3⟩ := X2.leave (v := some (.int 1)) (fun h => by rw [Bd.returns] at h; cases h)
  refine Good.done (retN X2 hx (t := .boolean) Bd.returns (by simp) (hb hby k17_0.2.2.2) hr3) hrun3 hended3 ⟨_, _, rfl, ?_, ⟨_, rfl⟩, hW3, hsame3.mono (by decide) (by decide)⟩
  show Q17 Z r0 cs h0 n0 _ T2.heap _
  rw [e2]
  exact ⟨rfl, N0, rfl⟩
theorem own_pd11 : parseMethodDescriptor "(J)I" = some ⟨[.long], some .int⟩ := by decide +kernel
theorem own_pd12 : parseMethodDescriptor "()Z" = some ⟨[], some .boolean⟩ := by decide +kernel
theorem own_pd13 : parseMethodDescriptor "(JI[B)I" = some ⟨[.long, .int, (.array .byte)], some .int⟩ := by decide +kernel
abbrev B15 := jdk_68_method_33_code
theorem k15_0 : ((own_A B15 0 (.aload_n 0) 1 ∧ own_A B15 1 (.getfield 79) 3) ∧ own_A B15 4 (.istore_n 3) 1 ∧ own_A B15 5 (.iload_n 3) 1) ∧ (own_A B15 6 (.lload_n 1) 1 ∧ own_A B15 7 (.invokestatic 254) 3) ∧ own_A B15 10 .iadd 1 ∧ own_A B15 11 (.istore 4) 2 := by decide +kernel
theorem k15_1 : ((own_A B15 13 (.aload_n 0) 1 ∧ own_A B15 14 (.iload 4) 2) ∧ own_A B15 16 (.invokevirtual 100) 3 ∧ own_A B15 19 (.aload_n 0) 1) ∧ (own_A B15 20 (.invokevirtual 83) 3 ∧ own_A B15 23 (.ifCond .eq 17) 3) ∧ own_A B15 26 (.lload_n 1) 1 ∧ own_A B15 27 (.iload 4) 2 := by decide +kernel
theorem k15_2 : ((own_A B15 29 (.aload_n 0) 1 ∧ own_A B15 30 (.getfield 15) 3) ∧ own_A B15 33 (.invokestatic 259) 3 ∧ own_A B15 36 .pop 1) ∧ (own_A B15 37 (.goto 15) 3 ∧ own_A B15 52 (.aload_n 0) 1) ∧ own_A B15 53 (.iload 4) 2 ∧ own_A B15 55 (.putfield 79) 3 := by decide +kernel
theorem k15_3 : own_A B15 58 (.aload_n 0) 1 ∧ own_A B15 59 .areturn 1 := by decide +kernel
theorem own_ef_15 (m : MethodId) (x0 : Addr) (x1 : Int64) : entryFrame m #[(.ref x0), (.long x1)] 5 = mkF m 0 #[.val (.ref x0), .val (.long x1), .second, .unset, .unset] [] := by first | (simp [entryFrame, mkF, argsToLocals, Value.category]; done) | rfl
def Q15 (Z : State) (r0 : Addr) (q1 : Int64) (cs : Int32) (ar : Addr) (kk : ClassId) (zc : Int32) (ct : Int32) (bs : List Int32) (d1 : Addr) (d2 : Addr) (kd1 : ClassId) (kd2 : ClassId) (h0 : Heap) (n0 : Nat) (v : Option Value) (h : Heap) (L : List Loc) : Prop := ∃ (a2 : Addr) (k2 : ClassId) (z2 : Int32) (c2 : Int32), v = some (.ref r0) ∧ Fr n0 L ∧ Keep h0 h [r0, ar] ∧ (a2 = ar ∨ h0.size ≤ a2) ∧ Fld Z h r0 "java/lang/AbstractStringBuilder" "coder" "B" (.int 0) ∧ Fld Z h r0 "java/lang/AbstractStringBuilder" "count" "I" (.int c2) ∧ Fld Z h r0 "java/lang/AbstractStringBuilder" "value" "[B" (.ref a2) ∧ Exa Z h a2 "[B" ∧ Arv Z h a2 k2 .byte z2 (own_v (bs ++ own_sd q1)) (.int 0) ∧ (c2.toInt = ((bs ++ own_sd q1).length : Int)) ∧ (((bs ++ own_sd q1).length : Int) ≤ z2.toInt ∧ z2.toInt ≤ 200)
set_option maxRecDepth 65536 in
set_option maxHeartbeats 40000000 in
theorem rm15 (l : Launch) (Z : State) (a0 : Array Value) (hw : ∀ d ∈ tables_1, d.before a0 Z = true) (ws : List Jvm.Cond) (r0 : Addr) (q1 : Int64) (cs : Int32) (ar : Addr) (kk : ClassId) (zc : Int32) (ct : Int32) (bs : List Int32) (d1 : Addr) (d2 : Addr) (kd1 : ClassId) (kd2 : ClassId) (h0 : Heap) (n0 : Nat) (Z0 : n0 ≤ h0.size) (S_cs : Sta Z h0 "java/lang/String" "COMPACT_STRINGS" "Z" (.int cs)) (hcs : ¬ (cs = (0 : Int32))) (E0 : Exa Z h0 r0 "java/lang/StringBuilder") (g0 : n0 ≤ r0) (Fk : Fld Z h0 r0 "java/lang/AbstractStringBuilder" "coder" "B" (.int 0)) (Fc : Fld Z h0 r0 "java/lang/AbstractStringBuilder" "count" "I" (.int ct)) (Fv : Fld Z h0 r0 "java/lang/AbstractStringBuilder" "value" "[B" (.ref ar)) (Ea : Exa Z h0 ar "[B") (Va : Arv Z h0 ar kk .byte zc (own_v bs) (.int 0)) (ga : n0 ≤ ar) (hc : ct.toInt = (bs.length : Int)) (hz : (bs.length : Int) ≤ zc.toInt ∧ zc.toInt ≤ 200) (hv : -4294967296 ≤ q1.toInt ∧ q1.toInt ≤ 4294967296) (S_d1 : Sta Z h0 "java/lang/Integer" "DigitOnes" "[B" (.ref d1)) (S_d2 : Sta Z h0 "java/lang/Integer" "DigitTens" "[B" (.ref d2)) (V_d1 : Arv Z h0 d1 kd1 .byte (100 : Int32) own_ones (.int 0)) (V_d2 : Arv Z h0 d2 kd2 .byte (100 : Int32) own_tens (.int 0)) (nd1 : d1 ≠ ar) (nd2 : d2 ≠ ar) (hap : bs.length + (own_sd q1).length ≤ 100) :
    MetFree l y_16 (head1 (Jvm.Cond.code y_16 jdk_68_method_33_code 5 (some (.object "java/lang/AbstractStringBuilder")) :: ws) R_8) (fun a U => a = #[(.ref r0), (.long q1)] ∧ Z.Warmed39 U.vm ∧ U.heap = h0) (fun _ _ _ _ _ => True) (fun _ U o U' => ∃ v L, o = .returned v ∧ Q15 Z r0 q1 cs ar kk zc ct bs d1 d2 kd1 kd2 h0 n0 v U'.heap L ∧ FrameEnd U o U' L R_8.cells R_8.slots) := by
  refine MetFree.of_bodySF (plainFor_of_name own_pn1) hisR ?_
  intro p e s m args below meth c s₁ Bd hml0 hP hK
  obtain ⟨rfl, hZ, hh⟩ := hP
  have hx := Bd.exec
  have hby := Bd.bytes
  have hml : c.maxLocals = 5 := hml0
  have hown : s.vm.findClass "java/lang/AbstractStringBuilder" = some m.cls := findClass_of_methodNamed Bd.named
  have hnm := (name_of_methodNamed Bd.named Bd.method).1
  have X0 : Stand p l e R_8 s m #[(.ref r0), (.long q1)] below meth c s₁ [] 0 0 := Stand.of_body Bd
  have e0 : s₁.heap = h0 := by rw [← hh, Bd.state]; rfl
  have N0 := Fr.nil n0
  have KR : Keep h0 h0 [r0, ar] := Keep.refl h0 _
  show Good p e below (fun o U' => ∃ v L, o = .returned v ∧ Q15 Z r0 q1 cs ar kk zc ct bs d1 d2 kd1 kd2 h0 n0 v U'.heap L ∧ FrameEnd s o U' L R_8.cells R_8.slots) _
  refine Good.back (S' := s₁.setTop (mkF m 0 #[.val (.ref r0), .val (.long q1), .second, .unset, .unset] [])) (fun t k => castTop (own_ef_15 m r0 q1) k) ?_
  have hsum := own_sum hc (own_szI (v := q1) (by omega)) (by omega)
  show Good p e below _ (s₁.setTop (mkF m 0 (a_RJsuu r0 q1) []))
  refine Good.back (fun _ k => XS.aloadN X0.here hx rfl (hb hby k15_0.1.1.1) rfl rfl k) ?_
  obtain ⟨T1, X1, e1, st1⟩ := getF X0 hx hZ hown (host := "") (Or.inl (wd hw 65 rfl)) Via.refl e0 Fc (g := (mkF m 1 (a_RJsuu r0 q1) [.ref r0])) rfl rfl (hb hby k15_0.1.1.2)
  refine Good.back st1 ?_
  refine Good.back (fun _ k => XS.istoreN X1.here hx rfl (hb hby k15_0.1.2.1) rfl (l' := (a_RJsIu r0 q1 ct)) rfl k) ?_
  refine Good.back (fun _ k => XS.iloadN X1.here hx rfl (hb hby k15_0.1.2.2) rfl k) ?_
  refine Good.back (fun _ k => XS.lloadN X1.here hx rfl (hb hby k15_0.2.1.1) rfl k) ?_
  obtain ⟨_, _, ⟨T2, L2, k2, n2⟩, -, X2, ⟨Lc2, hQ2, l2, y2, z2⟩, st2⟩ := Jvm.LawKit.callS X1 hx (y := y_13) hown (mvT hZ (wd hw 103 rfl)) (mvT hZ (wd hw 104 rfl)) (mvT hZ (wd hw 105 rfl)) (mvT hZ (wd hw 106 rfl)) (by decide) (backOf (W := 1) (rm16 l Z a0 hw [] q1  h0 n0 Z0 (hv)) hZ (wd hw 106 rfl) (wd hw 105 rfl) (by decide) (by decide)) (g := (mkF m 7 (a_RJsIu r0 q1 ct) [.long q1, .int ct])) rfl (by rw [hml]; rfl) (argsL := [(.long q1)]) (rest := [(.int ct)]) (lenOf own_pd11 rfl) rfl (by show 2 * 0 + _ ≤ _; exact Nat.le_of_eq rfl) (hb hby k15_0.2.1.2) (fun _ _ => ⟨rfl, e1, (by decide : 0 + 0 ≤ _), (by decide : 0 + 0 ≤ _)⟩)
  dsimp only [Pt.U, Pt.locs, Pt.cells, Pt.slots] at X2 l2 y2 z2 st2 hQ2
  subst l2 y2 z2
  obtain ⟨rfl, N2q, eh2⟩ := hQ2
  have N2 := Fr.app N0 N2q
  refine Good.back st2 ?_
  refine Good.back (fun _ k => XS.iadd X2.here hx rfl (hb hby k15_0.2.2.1) rfl k) ?_
  refine Good.back (fun _ k => XS.istore X2.here hx rfl (hb hby k15_0.2.2.2) rfl (l' := (a_RJsII r0 q1 ct (ct + (own_sz q1)))) rfl k) ?_
  refine Good.back (fun _ k => XS.aloadN X2.here hx rfl (hb hby k15_1.1.1.1) rfl rfl k) ?_
  refine Good.back (fun _ k => XS.iload X2.here hx rfl (hb hby k15_1.1.1.2) rfl k) ?_
  obtain ⟨cq3, qk3, qk3'⟩ := E0.cell
  obtain ⟨_, _, ⟨T3, L3, k3, n3⟩, -, X3, ⟨Lc3, hQ3, l3, y3, z3⟩, st3⟩ := X2.privateBack hx (y := y_5) hown (mvT hZ (wd hw 67 rfl)) (mvT hZ (wd hw 68 rfl)) (own_selPriv (mvT hZ (wd hw 70 rfl)) (mvT hZ (wd hw 68 rfl)) (Cond.privateMethod_at (mvP hZ (wd hw 69 rfl) (args := #[]))) (by decide)) (Cond.privateMethod_at (mvP hZ (wd hw 69 rfl) (args := #[]))) (mvT hZ (wd hw 71 rfl)) (by decide) (backOf (W := 0) (rm10 l Z a0 hw [] r0 (ct + (own_sz q1)) ar kk zc ct bs h0 n0 Z0 E0 g0 Fk Fc Fv Ea Va ga (by first | assumption | decide) (by first | assumption | decide) (by omega)) hZ (wd hw 71 rfl) (wd hw 26 rfl) (by decide) (by decide)) (g := (mkF m 16 (a_RJsII r0 q1 ct (ct + (own_sz q1))) [.int (ct + (own_sz q1)), .ref r0])) rfl (by rw [hml]; rfl) (Steps.refl _) (a := r0) (by rw [eh2]; exact qk3) qk3' (argsL := [(.int (ct + (own_sz q1)))]) (rest := []) (lenOf own_pd8 rfl) rfl (by show 2 * 0 + _ ≤ _; exact Nat.le_of_eq rfl) (hb hby k15_1.1.2.1) (fun _ _ => ⟨rfl, eh2, (by decide : 0 + 1 ≤ _), (by decide : 0 + 200 ≤ _)⟩)
  dsimp only [Pt.U, Pt.locs, Pt.cells, Pt.slots] at X3 l3 y3 z3 st3 hQ3
  subst l3 y3 z3
  obtain ⟨a2_3, k2_3, z2_3, rfl, N3q, Kq3, o3_0, o3_1, o3_2, o3_3, o3_4, o3_5, o3_6, o3_7⟩ := hQ3
  have N3 := Fr.app N2 N3q
  have Z4 : n0 ≤ T3.heap.size := Nat.le_trans Z0 Kq3.1
  have K5 : Keep h0 T3.heap [r0, ar] := KR.trans Kq3 (allS (Or.inl (List.mem_of_getElem? (i := 0) rfl)) all0)
  have g_a2_3 : n0 ≤ a2_3 := own_rel o3_0 ga Z0
  have kp_a2_3 : a2_3 ∈ [r0, ar] ∨ h0.size ≤ a2_3 := own_kp o3_0 (Or.inl (List.mem_of_getElem? (i := 1) rfl)) KR.1
  have ne_d1_a2_3 : d1 ≠ a2_3 := own_neRel o3_0 nd1 V_d1.lt
  have ne_d2_a2_3 : d2 ≠ a2_3 := own_neRel o3_0 nd2 V_d2.lt
  refine Good.back (fun _ k => st3.trans k) ?_
  refine Good.back (fun _ k => XS.aloadN X3.here hx rfl (hb hby k15_1.1.2.2) rfl rfl k) ?_
  have f_7 := own_staKeep S_cs Kq3 (allS (own_plainE E0) all0)
  have f_8 := Exa.keep E0 Kq3
  obtain ⟨cq6, kq6, q6a, q6b, q6c⟩ := isOf hZ rfl f_8
  obtain ⟨_, _, ⟨T6, L6, k6, n6⟩, -, X6, ⟨Lc6, hQ6, l6, y6, z6⟩, st6⟩ := X3.virtualBack hx (y := y_15) (z := y_15) hown (mvT hZ (wd hw 108 rfl)) (mvT hZ (wd hw 109 rfl)) (notFace_of_selects (args := #[]) (mvT hZ (wd hw 111 rfl))) (mvT hZ (wd hw 111 rfl)) (mvT hZ (wd hw 110 rfl)) (by decide) (backOf (W := 0) (rm17 l Z a0 hw [] r0 cs T3.heap n0 Z4 f_7 (hcs) o3_1) hZ (wd hw 112 rfl) (wd hw 26 rfl) (by decide) (by decide)) q6a q6c (g := (mkF m 20 (a_RJsII r0 q1 ct (ct + (own_sz q1))) [.ref r0])) rfl (by rw [hml]; rfl) (Steps.refl _) (argsL := []) (rest := []) (lenOf own_pd12 rfl) rfl (by show 2 * 0 + _ ≤ _; exact Nat.le_of_eq rfl) (hb hby k15_1.2.1.1) (fun _ _ => ⟨rfl, rfl, (by decide : 1 + 0 ≤ _), (by decide : 200 + 0 ≤ _)⟩)
  dsimp only [Pt.U, Pt.locs, Pt.cells, Pt.slots] at X6 l6 y6 z6 st6 hQ6
  subst l6 y6 z6
  obtain ⟨rfl, N6q, eh6⟩ := hQ6
  have N6 := Fr.app N3 N6q
  refine Good.back (fun _ k => st6.trans k) ?_
  refine Good.back (fun _ k => XS.ifNo X6.here hx rfl (hb hby k15_1.2.1.2) rfl ((if0 _ _).trans (feq (by decide : ¬ ((1 : Int32) = (0 : Int32)))).1) k) ?_
  refine Good.back (fun _ k => XS.lloadN X6.here hx rfl (hb hby k15_1.2.2.1) rfl k) ?_
  refine Good.back (fun _ k => XS.iload X6.here hx rfl (hb hby k15_1.2.2.2) rfl k) ?_
  refine Good.back (fun _ k => XS.aloadN X6.here hx rfl (hb hby k15_2.1.1.1) rfl rfl k) ?_
  obtain ⟨T9, X9, e9, st9⟩ := getF X6 hx hZ hown (host := "") (Or.inl (wd hw 32 rfl)) Via.refl eh6 o3_3 (g := (mkF m 30 (a_RJsII r0 q1 ct (ct + (own_sz q1))) [.ref r0, .int (ct + (own_sz q1)), .long q1])) rfl rfl (hb hby k15_2.1.1.2)
  refine Good.back st9 ?_
  have f_11 := own_staKeep S_d1 Kq3 (allS (own_plainE E0) all0)
  have f_12 := own_staKeep S_d2 Kq3 (allS (own_plainE E0) all0)
  have ne_r0_d1_14 : r0 ≠ d1 := Exa.neArv E0 V_d1 (wd hw 17 rfl)
  have f_13 := Arv.keep V_d1 Kq3 (ninS (Ne.symm ne_r0_d1_14) nin0)
  have ne_r0_d2_16 : r0 ≠ d2 := Exa.neArv E0 V_d2 (wd hw 17 rfl)
  have f_15 := Arv.keep V_d2 Kq3 (ninS (Ne.symm ne_r0_d2_16) nin0)
  obtain ⟨_, _, ⟨T10, L10, k10, n10⟩, -, X10, ⟨Lc10, hQ10, l10, y10, z10⟩, st10⟩ := Jvm.LawKit.callS X9 hx (y := y_14) hown (mvT hZ (wd hw 113 rfl)) (mvT hZ (wd hw 114 rfl)) (mvT hZ (wd hw 105 rfl)) (mvT hZ (wd hw 115 rfl)) (by decide) (backOf (W := 0) (rm18 l Z a0 hw [] q1 (ct + (own_sz q1)) a2_3 k2_3 z2_3 bs d1 d2 kd1 kd2 T3.heap n0 Z4 o3_5 g_a2_3 (hv) (hsum) (by omega) f_11 f_12 f_13 f_15 ne_d1_a2_3 ne_d2_a2_3) hZ (wd hw 115 rfl) (wd hw 105 rfl) (by decide) (by decide)) (g := (mkF m 33 (a_RJsII r0 q1 ct (ct + (own_sz q1))) [.ref a2_3, .int (ct + (own_sz q1)), .long q1])) rfl (by rw [hml]; rfl) (argsL := [(.long q1), (.int (ct + (own_sz q1))), (.ref a2_3)]) (rest := []) (lenOf own_pd13 rfl) rfl (by show 2 * 0 + _ ≤ _; exact Nat.le_of_eq rfl) (hb hby k15_2.1.2.1) (fun _ _ => ⟨rfl, e9, (by decide : 1 + 0 ≤ _), (by decide : 200 + 0 ≤ _)⟩)
  dsimp only [Pt.U, Pt.locs, Pt.cells, Pt.slots] at X10 l10 y10 z10 st10 hQ10
  subst l10 y10 z10
  obtain ⟨rv_10, rfl, N10q, Kq10, o10_0⟩ := hQ10
  have N10 := Fr.app N6 N10q
  have Z17 : n0 ≤ T10.heap.size := Nat.le_trans Z4 Kq10.1
  have K18 : Keep h0 T10.heap [r0, ar] := K5.trans Kq10 (allS (kp_a2_3) all0)
  refine Good.back st10 ?_
  refine Good.back (fun _ k => XS.pop X10.here hx rfl (hb hby k15_2.1.2.2) rfl rfl k) ?_
  refine Good.back (fun _ k => XS.goto X10.here hx rfl (pc0 := 37) (pc' := 52) rfl (hb hby k15_2.2.1.1) (by decide) (by decide) k) ?_
  refine Good.back (fun _ k => XS.aloadN X10.here hx rfl (hb hby k15_2.2.1.2) rfl rfl k) ?_
  refine Good.back (fun _ k => XS.iload X10.here hx rfl (hb hby k15_2.2.2.1) rfl k) ?_
  have f_20 := Exa.keep f_8 Kq10
  have ne_r0_a2_3_21 : r0 ≠ a2_3 := Exa.neArv f_20 o10_0 (wd hw 17 rfl)
  have f_19 := Fld.keep o3_2 Kq10 (ninS ne_r0_a2_3_21 nin0)
  have f_22 := Exa.keep f_8 Kq10
  obtain ⟨T23, h23, X23, e23, W23, st23⟩ := putF X10 hx hZ hown (host := "") (Or.inl (wd hw 65 rfl)) Via.refl rfl f_19 f_22 (Or.inl (wd hw 66 rfl)) (wd hw 17 rfl) (ty := .int) (by decide) rfl rfl (g := (mkF m 55 (a_RJsII r0 q1 ct (ct + (own_sz q1))) [.int (ct + (own_sz q1)), .ref r0])) rfl rfl (hb hby k15_2.2.2.2)
  refine Good.back st23 ?_
  have f_24 : Fld Z h23 r0 "java/lang/AbstractStringBuilder" "count" "I" (.int (ct + (own_sz q1))) := Fld.same W23 f_19
  have N23 := Fr.snoc X23 N10 g0
  have Z25 : n0 ≤ h23.size := Nat.le_trans Z17 (Keep.of_wr W23).1
  have K26 : Keep h0 h23 [r0, ar] := K18.wr W23 (Or.inl (List.mem_of_getElem? (i := 0) rfl))
  refine Good.back (fun _ k => XS.aloadN X23.here hx rfl (hb hby k15_3.1) rfl rfl k) ?_
  show Good p e below _ (T23.setTop (mkF m 59 (a_RJsII r0 q1 ct (ct + (own_sz q1))) [.ref r0]))
  obtain ⟨fs27, hr27, hrun27, hended27, hW27, hsame27⟩ := X23.leave (v := some (.ref r0)) (fun h => by rw [Bd.returns] at h; cases h)
  refine Good.done (retOut X23 hx Bd.returns rfl (Or.inr (Or.inr (Or.inr (Or.inr ⟨rfl, rfl, rfl⟩)))) (hb hby k15_3.2) hr27) hrun27 hended27 ⟨_, _, rfl, ?_, ⟨_, rfl⟩, hW27, hsame27.mono (by decide) (by decide)⟩
  show Q15 Z r0 q1 cs ar kk zc ct bs d1 d2 kd1 kd2 h0 n0 _ T23.heap _
  rw [e23]
  have f_28 := Fld.keep o3_1 Kq10 (ninS ne_r0_a2_3_21 nin0)
  have f_29 : Fld Z h23 r0 "java/lang/AbstractStringBuilder" "coder" "B" (.int 0) := Fld.other W23 f_28 (Or.inr (slot_ne (Or.inl (wd hw 35 rfl)) (Or.inl (wd hw 66 rfl)) (by decide) (t := .byte) (t' := .int) (by decide) (by decide)))
  have f_30 := Fld.keep o3_3 Kq10 (ninS ne_r0_a2_3_21 nin0)
  have f_31 : Fld Z h23 r0 "java/lang/AbstractStringBuilder" "value" "[B" (.ref a2_3) := Fld.other W23 f_30 (Or.inr (slot_ne (Or.inl (wd hw 33 rfl)) (Or.inl (wd hw 66 rfl)) (by decide) (t := (.array .byte)) (t' := .int) (by decide) (by decide)))
  have f_32 := Exa.keep o3_4 Kq10
  have f_33 : Exa Z h23 a2_3 "[B" := Exa.wr W23 f_32
  have f_34 : Arv Z h23 a2_3 k2_3 .byte z2_3 (own_v (bs ++ own_sd q1)) (.int 0) := Arv.other o10_0 W23 (Ne.symm ne_r0_a2_3_21)
  exact ⟨a2_3, k2_3, z2_3, (ct + (own_sz q1)), rfl, N23, K26, (o3_0), f_29, f_24, f_31, f_33, f_34, (by rw [List.length_append]; exact hsum), (by rw [List.length_append]; omega)⟩
theorem own_pd14 : parseMethodDescriptor "(J)Ljava/lang/AbstractStringBuilder;" = some ⟨[.long], some (.object "java/lang/AbstractStringBuilder")⟩ := by decide +kernel
abbrev B14 := jdk_67_method_16_code
theorem k14_0 : ((own_A B14 0 (.aload_n 0) 1 ∧ own_A B14 1 (.lload_n 1) 1) ∧ own_A B14 2 (.invokespecial 56) 3) ∧ (own_A B14 5 .pop 1 ∧ own_A B14 6 (.aload_n 0) 1) ∧ own_A B14 7 .areturn 1 := by decide +kernel
theorem own_ef_14 (m : MethodId) (x0 : Addr) (x1 : Int64) : entryFrame m #[(.ref x0), (.long x1)] 3 = mkF m 0 #[.val (.ref x0), .val (.long x1), .second] [] := by first | (simp [entryFrame, mkF, argsToLocals, Value.category]; done) | rfl
def Q14 (Z : State) (r0 : Addr) (q1 : Int64) (cs : Int32) (ar : Addr) (kk : ClassId) (zc : Int32) (ct : Int32) (bs : List Int32) (d1 : Addr) (d2 : Addr) (kd1 : ClassId) (kd2 : ClassId) (h0 : Heap) (n0 : Nat) (v : Option Value) (h : Heap) (L : List Loc) : Prop := ∃ (a2 : Addr) (k2 : ClassId) (z2 : Int32) (c2 : Int32), v = some (.ref r0) ∧ Fr n0 L ∧ Keep h0 h [r0, ar] ∧ (a2 = ar ∨ h0.size ≤ a2) ∧ Fld Z h r0 "java/lang/AbstractStringBuilder" "coder" "B" (.int 0) ∧ Fld Z h r0 "java/lang/AbstractStringBuilder" "count" "I" (.int c2) ∧ Fld Z h r0 "java/lang/AbstractStringBuilder" "value" "[B" (.ref a2) ∧ Exa Z h a2 "[B" ∧ Arv Z h a2 k2 .byte z2 (own_v (bs ++ own_sd q1)) (.int 0) ∧ (c2.toInt = ((bs ++ own_sd q1).length : Int)) ∧ (((bs ++ own_sd q1).length : Int) ≤ z2.toInt ∧ z2.toInt ≤ 200)
set_option maxRecDepth 65536 in
set_option maxHeartbeats 40000000 in
theorem rm14 (l : Launch) (Z : State) (a0 : Array Value) (hw : ∀ d ∈ tables_1, d.before a0 Z = true) (ws : List Jvm.Cond) (r0 : Addr) (q1 : Int64) (cs : Int32) (ar : Addr) (kk : ClassId) (zc : Int32) (ct : Int32) (bs : List Int32) (d1 : Addr) (d2 : Addr) (kd1 : ClassId) (kd2 : ClassId) (h0 : Heap) (n0 : Nat) (Z0 : n0 ≤ h0.size) (S_cs : Sta Z h0 "java/lang/String" "COMPACT_STRINGS" "Z" (.int cs)) (hcs : ¬ (cs = (0 : Int32))) (E0 : Exa Z h0 r0 "java/lang/StringBuilder") (g0 : n0 ≤ r0) (Fk : Fld Z h0 r0 "java/lang/AbstractStringBuilder" "coder" "B" (.int 0)) (Fc : Fld Z h0 r0 "java/lang/AbstractStringBuilder" "count" "I" (.int ct)) (Fv : Fld Z h0 r0 "java/lang/AbstractStringBuilder" "value" "[B" (.ref ar)) (Ea : Exa Z h0 ar "[B") (Va : Arv Z h0 ar kk .byte zc (own_v bs) (.int 0)) (ga : n0 ≤ ar) (hc : ct.toInt = (bs.length : Int)) (hz : (bs.length : Int) ≤ zc.toInt ∧ zc.toInt ≤ 200) (hv : -4294967296 ≤ q1.toInt ∧ q1.toInt ≤ 4294967296) (S_d1 : Sta Z h0 "java/lang/Integer" "DigitOnes" "[B" (.ref d1)) (S_d2 : Sta Z h0 "java/lang/Integer" "DigitTens" "[B" (.ref d2)) (V_d1 : Arv Z h0 d1 kd1 .byte (100 : Int32) own_ones (.int 0)) (V_d2 : Arv Z h0 d2 kd2 .byte (100 : Int32) own_tens (.int 0)) (nd1 : d1 ≠ ar) (nd2 : d2 ≠ ar) (hap : bs.length + (own_sd q1).length ≤ 100) :
    MetFree l y_17 (head1 (Jvm.Cond.code y_17 jdk_67_method_16_code 3 (some (.object "java/lang/StringBuilder")) :: ws) R_10) (fun a U => a = #[(.ref r0), (.long q1)] ∧ Z.Warmed39 U.vm ∧ U.heap = h0) (fun _ _ _ _ _ => True) (fun _ U o U' => ∃ v L, o = .returned v ∧ Q14 Z r0 q1 cs ar kk zc ct bs d1 d2 kd1 kd2 h0 n0 v U'.heap L ∧ FrameEnd U o U' L R_10.cells R_10.slots) := by
  refine MetFree.of_bodySF (plainFor_of_name own_pn4) hisR ?_
  intro p e s m args below meth c s₁ Bd hml0 hP hK
  obtain ⟨rfl, hZ, hh⟩ := hP
  have hx := Bd.exec
  have hby := Bd.bytes
  have hml : c.maxLocals = 3 := hml0
  have hown : s.vm.findClass "java/lang/StringBuilder" = some m.cls := findClass_of_methodNamed Bd.named
  have hnm := (name_of_methodNamed Bd.named Bd.method).1
  have X0 : Stand p l e R_10 s m #[(.ref r0), (.long q1)] below meth c s₁ [] 0 0 := Stand.of_body Bd
  have e0 : s₁.heap = h0 := by rw [← hh, Bd.state]; rfl
  have N0 := Fr.nil n0
  have KR : Keep h0 h0 [r0, ar] := Keep.refl h0 _
  show Good p e below (fun o U' => ∃ v L, o = .returned v ∧ Q14 Z r0 q1 cs ar kk zc ct bs d1 d2 kd1 kd2 h0 n0 v U'.heap L ∧ FrameEnd s o U' L R_10.cells R_10.slots) _
  refine Good.back (S' := s₁.setTop (mkF m 0 #[.val (.ref r0), .val (.long q1), .second] [])) (fun t k => castTop (own_ef_14 m r0 q1) k) ?_
  show Good p e below _ (s₁.setTop (mkF m 0 (a_RJs r0 q1) []))
  refine Good.back (fun _ k => XS.aloadN X0.here hx rfl (hb hby k14_0.1.1.1) rfl rfl k) ?_
  refine Good.back (fun _ k => XS.lloadN X0.here hx rfl (hb hby k14_0.1.1.2) rfl k) ?_
  obtain ⟨_, _, ⟨T1, L1, k1, n1⟩, -, X1, ⟨Lc1, hQ1, l1, y1, z1⟩, st1⟩ := superBack X0 hx hZ (y := y_16) hown (wd hw 99 rfl) (own_sameM (z := y_5) (wd hw 101 rfl) (wd hw 70 rfl) rfl (by decide)) (wd hw 100 rfl) (wd hw 49 rfl) (by decide) (backOf (W := 0) (rm15 l Z a0 hw [] r0 q1 cs ar kk zc ct bs d1 d2 kd1 kd2 h0 n0 Z0 S_cs (hcs) E0 g0 Fk Fc Fv Ea Va ga (by first | assumption | decide) (by first | assumption | decide) (hv) S_d1 S_d2 V_d1 V_d2 nd1 nd2 (by first | assumption | decide)) hZ (wd hw 102 rfl) (wd hw 26 rfl) (by decide) (by decide)) e0 (Ins.self E0) (g := (mkF m 2 (a_RJs r0 q1) [.long q1, .ref r0])) rfl (by rw [hml]; rfl) (wd hw 102 rfl) (argsL := [(.long q1)]) (rest := []) (lenOf own_pd14 rfl) rfl (by show 2 * 0 + _ ≤ _; exact Nat.le_of_eq rfl) (hb hby k14_0.1.2) (fun _ _ => ⟨rfl, e0, (by decide : 0 + 1 ≤ _), (by decide : 0 + 200 ≤ _)⟩)
  dsimp only [Pt.U, Pt.locs, Pt.cells, Pt.slots] at X1 l1 y1 z1 st1 hQ1
  subst l1 y1 z1
  obtain ⟨a2_1, k2_1, z2_1, c2_1, rfl, N1q, Kq1, o1_0, o1_1, o1_2, o1_3, o1_4, o1_5, o1_6, o1_7⟩ := hQ1
  have N1 := Fr.app N0 N1q
  have Z2 : n0 ≤ T1.heap.size := Nat.le_trans Z0 Kq1.1
  have K3 : Keep h0 T1.heap [r0, ar] := KR.trans Kq1 (allS (Or.inl (List.mem_of_getElem? (i := 0) rfl)) (allS (Or.inl (List.mem_of_getElem? (i := 1) rfl)) all0))
  have g_a2_1 : n0 ≤ a2_1 := own_rel o1_0 ga Z0
  have kp_a2_1 : a2_1 ∈ [r0, ar] ∨ h0.size ≤ a2_1 := own_kp o1_0 (Or.inl (List.mem_of_getElem? (i := 1) rfl)) KR.1
  have ne_d1_a2_1 : d1 ≠ a2_1 := own_neRel o1_0 nd1 V_d1.lt
  have ne_d2_a2_1 : d2 ≠ a2_1 := own_neRel o1_0 nd2 V_d2.lt
  refine Good.back (fun _ k => st1.trans k) ?_
  refine Good.back (fun _ k => XS.pop X1.here hx rfl (hb hby k14_0.2.1.1) rfl rfl k) ?_
  refine Good.back (fun _ k => XS.aloadN X1.here hx rfl (hb hby k14_0.2.1.2) rfl rfl k) ?_
  show Good p e below _ (T1.setTop (mkF m 7 (a_RJs r0 q1) [.ref r0]))
  obtain ⟨fs4, hr4, hrun4, hended4, hW4, hsame4⟩ := X1.leave (v := some (.ref r0)) (fun h => by rw [Bd.returns] at h; cases h)
  refine Good.done (retOut X1 hx Bd.returns rfl (Or.inr (Or.inr (Or.inr (Or.inr ⟨rfl, rfl, rfl⟩)))) (hb hby k14_0.2.2) hr4) hrun4 hended4 ⟨_, _, rfl, ?_, ⟨_, rfl⟩, hW4, hsame4.mono (by decide) (by decide)⟩
  show Q14 Z r0 q1 cs ar kk zc ct bs d1 d2 kd1 kd2 h0 n0 _ T1.heap _
  exact ⟨a2_1, k2_1, z2_1, c2_1, rfl, N1, K3, (o1_0), o1_1, o1_2, o1_3, o1_4, o1_5, (o1_6), (o1_7)⟩
theorem own_pn6 : plainName "java/lang/Integer" = true := by first | (simp [plainName, overriddenIn]; done) | decide +kernel
abbrev B26 := jdk_33_method_13_code
theorem k26_0 : ((own_A B26 0 (.iconst 1) 1 ∧ own_A B26 1 (.istore_n 1) 1) ∧ own_A B26 2 (.iload_n 0) 1 ∧ own_A B26 3 (.ifCond .lt 8) 3) ∧ (own_A B26 6 (.iconst 0) 1 ∧ own_A B26 7 (.istore_n 1) 1) ∧ own_A B26 8 (.iload_n 0) 1 ∧ own_A B26 9 .ineg 1 := by decide +kernel
theorem k26_1 : ((own_A B26 10 (.istore_n 0) 1 ∧ own_A B26 11 (.bipush (-10)) 2) ∧ own_A B26 13 (.istore_n 2) 1 ∧ own_A B26 14 (.iconst 1) 1) ∧ (own_A B26 15 (.istore_n 3) 1 ∧ own_A B26 16 (.iload_n 3) 1) ∧ own_A B26 17 (.bipush 10) 2 ∧ own_A B26 19 (.if_icmp .ge 23) 3 := by decide +kernel
theorem k26_2 : ((own_A B26 22 (.iload_n 0) 1 ∧ own_A B26 23 (.iload_n 2) 1) ∧ own_A B26 24 (.if_icmp .le 7) 3 ∧ own_A B26 27 (.iload_n 3) 1) ∧ (own_A B26 28 (.iload_n 1) 1 ∧ own_A B26 29 .iadd 1) ∧ own_A B26 30 .ireturn 1 := by decide +kernel
theorem own_ef_26 (m : MethodId) (x0 : Int32) : entryFrame m #[(.int x0)] 4 = mkF m 0 #[.val (.int x0), .unset, .unset, .unset] [] := by first | (simp [entryFrame, mkF, argsToLocals, Value.category]; done) | rfl
def Q26 (Z : State) (p0 : Int32) (h0 : Heap) (n0 : Nat) (v : Option Value) (h : Heap) (L : List Loc) : Prop := v = some (.int 1) ∧ Fr n0 L ∧ h = h0
set_option maxRecDepth 65536 in
set_option maxHeartbeats 40000000 in
theorem rm26 (l : Launch) (Z : State) (a0 : Array Value) (hw : ∀ d ∈ tables_1, d.before a0 Z = true) (ws : List Jvm.Cond) (p0 : Int32) (h0 : Heap) (n0 : Nat) (Z0 : n0 ≤ h0.size) (hd_ : 0 ≤ p0.toInt ∧ p0.toInt ≤ 9) :
    MetFree l y_18 (head1 (Jvm.Cond.code y_18 jdk_33_method_13_code 4 (some .int) :: ws) R_0) (fun a U => a = #[(.int p0)] ∧ Z.Warmed39 U.vm ∧ U.heap = h0) (fun _ _ _ _ _ => True) (fun _ U o U' => ∃ v L, o = .returned v ∧ Q26 Z p0 h0 n0 v U'.heap L ∧ FrameEnd U o U' L R_0.cells R_0.slots) := by
  refine MetFree.of_bodySF (plainFor_of_name own_pn6) hisR ?_
  intro p e s m args below meth c s₁ Bd hml0 hP hK
  obtain ⟨rfl, hZ, hh⟩ := hP
  have hx := Bd.exec
  have hby := Bd.bytes
  have hml : c.maxLocals = 4 := hml0
  have hown : s.vm.findClass "java/lang/Integer" = some m.cls := findClass_of_methodNamed Bd.named
  have hnm := (name_of_methodNamed Bd.named Bd.method).1
  have X0 : Stand p l e R_0 s m #[(.int p0)] below meth c s₁ [] 0 0 := Stand.of_body Bd
  have e0 : s₁.heap = h0 := by rw [← hh, Bd.state]; rfl
  have N0 := Fr.nil n0
  show Good p e below (fun o U' => ∃ v L, o = .returned v ∧ Q26 Z p0 h0 n0 v U'.heap L ∧ FrameEnd s o U' L R_0.cells R_0.slots) _
  refine Good.back (S' := s₁.setTop (mkF m 0 #[.val (.int p0), .unset, .unset, .unset] [])) (fun t k => castTop (own_ef_26 m p0) k) ?_
  have hng := own_negI hd_
  show Good p e below _ (s₁.setTop (mkF m 0 (a_Iu3 p0) []))
  refine Good.back (fun _ k => XS.iconst X0.here hx rfl (hb hby k26_0.1.1.1) k) ?_
  refine Good.back (fun _ k => XS.istoreN X0.here hx rfl (hb hby k26_0.1.1.2) rfl (l' := (a_IIuu p0 1)) rfl k) ?_
  refine Good.back (fun _ k => XS.iloadN X0.here hx rfl (hb hby k26_0.1.2.1) rfl k) ?_
  show Good p e below _ (s₁.setTop (mkF m 3 (a_IIuu p0 1) [.int p0]))
  refine Good.back (fun _ k => XS.ifNo X0.here hx rfl (hb hby k26_0.1.2.2) rfl ((if0 _ _).trans (flt (own_lt (by rw [show (0 : Int32).toInt = 0 from rfl]; omega))).1) k) ?_
  refine Good.back (fun _ k => XS.iconst X0.here hx rfl (hb hby k26_0.2.1.1) k) ?_
  refine Good.back (fun _ k => XS.istoreN X0.here hx rfl (hb hby k26_0.2.1.2) rfl (l' := (a_IIuu p0 0)) rfl k) ?_
  refine Good.back (fun _ k => XS.iloadN X0.here hx rfl (hb hby k26_0.2.2.1) rfl k) ?_
  refine Good.back (fun _ k => XS.ineg X0.here hx rfl (hb hby k26_0.2.2.2) rfl k) ?_
  refine Good.back (fun _ k => XS.istoreN X0.here hx rfl (hb hby k26_1.1.1.1) rfl (l' := (a_IIuu (-p0) 0)) rfl k) ?_
  show Good p e below _ (s₁.setTop (mkF m 11 (a_IIuu (-p0) 0) []))
  refine Good.back (fun _ k => XS.bipush X0.here hx rfl (hb hby k26_1.1.1.2) k) ?_
  refine Good.back (fun _ k => XS.istoreN X0.here hx rfl (hb hby k26_1.1.2.1) rfl (l' := (a_I3u (-p0) 0 (-10))) rfl k) ?_
  refine Good.back (fun _ k => XS.iconst X0.here hx rfl (hb hby k26_1.1.2.2) k) ?_
  refine Good.back (fun _ k => XS.istoreN X0.here hx rfl (hb hby k26_1.2.1.1) rfl (l' := (a_I4 (-p0) 0 (-10) 1)) rfl k) ?_
  refine Good.back (fun _ k => XS.iloadN X0.here hx rfl (hb hby k26_1.2.1.2) rfl k) ?_
  refine Good.back (fun _ k => XS.bipush X0.here hx rfl (hb hby k26_1.2.2.1) k) ?_
  show Good p e below _ (s₁.setTop (mkF m 19 (a_I4 (-p0) 0 (-10) 1) [.int 10, .int 1]))
  refine Good.back (fun _ k => XS.icmpNo X0.here hx rfl (hb hby k26_1.2.2.2) rfl (tlt (by decide : ((1 : Int32) < (10 : Int32)))).2.1 k) ?_
  refine Good.back (fun _ k => XS.iloadN X0.here hx rfl (hb hby k26_2.1.1.1) rfl k) ?_
  refine Good.back (fun _ k => XS.iloadN X0.here hx rfl (hb hby k26_2.1.1.2) rfl k) ?_
  show Good p e below _ (s₁.setTop (mkF m 24 (a_I4 (-p0) 0 (-10) 1) [.int (-10 : Int32), .int (-p0)]))
  refine Good.back (fun _ k => XS.icmpNo X0.here hx rfl (hb hby k26_2.1.2.1) rfl (tlt (own_lt' (by rw [show (-10 : Int32).toInt = -10 from rfl]; omega))).2.2.2 k) ?_
  refine Good.back (fun _ k => XS.iloadN X0.here hx rfl (hb hby k26_2.1.2.2) rfl k) ?_
  refine Good.back (fun _ k => XS.iloadN X0.here hx rfl (hb hby k26_2.2.1.1) rfl k) ?_
  refine Good.back (fun _ k => XS.iadd X0.here hx rfl (hb hby k26_2.2.1.2) rfl k) ?_
  show Good p e below _ (s₁.setTop (mkF m 30 (a_I4 (-p0) 0 (-10) 1) [.int ((1 : Int32) + (0 : Int32))]))
  rw [show (((1 : Int32) + (0 : Int32)) : Int32) = (1 : Int32) from by decide]
  show Good p e below _ (s₁.setTop (mkF m 30 (a_I4 (-p0) 0 (-10) 1) [.int 1]))
  obtain ⟨fs1, hr1, hrun1, hended1, hW1, hsame1⟩ := X0.leave (v := some (.int 1)) (fun h => by rw [Bd.returns] at h; cases h)
  refine Good.done (retI X0 hx Bd.returns (hb hby k26_2.2.2) hr1) hrun1 hended1 ⟨_, _, rfl, ?_, ⟨_, rfl⟩, hW1, hsame1.mono (by decide) (by decide)⟩
  show Q26 Z p0 h0 n0 _ s₁.heap _
  rw [e0]
  exact ⟨rfl, N0, rfl⟩
abbrev B27 := jdk_33_method_12_code
theorem k27_0 : ((own_A B27 0 (.iload_n 1) 1 ∧ own_A B27 1 (.istore 5) 2) ∧ own_A B27 3 (.iload_n 0) 1 ∧ own_A B27 4 (.ifCond .ge 7) 3) ∧ (own_A B27 11 (.iconst 0) 1 ∧ own_A B27 12 (.istore 6) 2) ∧ own_A B27 14 (.iload 6) 2 ∧ own_A B27 16 (.ifCond .ne 6) 3 := by decide +kernel
theorem k27_1 : ((own_A B27 19 (.iload_n 0) 1 ∧ own_A B27 20 .ineg 1) ∧ own_A B27 21 (.istore_n 0) 1 ∧ own_A B27 22 (.iload_n 0) 1) ∧ (own_A B27 23 (.bipush (-100)) 2 ∧ own_A B27 25 (.if_icmp .gt 47) 3) ∧ own_A B27 72 (.aload_n 2) 1 ∧ own_A B27 73 (.iinc 5 (-1)) 3 := by decide +kernel
theorem k27_2 : ((own_A B27 76 (.iload 5) 2 ∧ own_A B27 78 (.getstatic 83) 3) ∧ own_A B27 81 (.iload_n 0) 1 ∧ own_A B27 82 .ineg 1) ∧ (own_A B27 83 .baload 1 ∧ own_A B27 84 .bastore 1) ∧ own_A B27 85 (.iload_n 0) 1 ∧ own_A B27 86 (.bipush (-9)) 2 := by decide +kernel
theorem k27_3 : ((own_A B27 88 (.if_icmp .ge 16) 3 ∧ own_A B27 104 (.iload 6) 2) ∧ own_A B27 106 (.ifCond .eq 12) 3) ∧ own_A B27 118 (.iload 5) 2 ∧ own_A B27 120 .ireturn 1 := by decide +kernel
theorem own_ef_27 (m : MethodId) (x0 : Int32) (x1 : Int32) (x2 : Addr) : entryFrame m #[(.int x0), (.int x1), (.ref x2)] 7 = mkF m 0 #[.val (.int x0), .val (.int x1), .val (.ref x2), .unset, .unset, .unset, .unset] [] := by first | (simp [entryFrame, mkF, argsToLocals, Value.category]; done) | rfl
def Q27 (Z : State) (p0 : Int32) (p1 : Int32) (ar : Addr) (kk : ClassId) (zc : Int32) (bs : List Int32) (d1 : Addr) (kd1 : ClassId) (h0 : Heap) (n0 : Nat) (v : Option Value) (h : Heap) (L : List Loc) : Prop := ∃ (rv : Int32), v = some (.int rv) ∧ Fr n0 L ∧ Keep h0 h [ar] ∧ Arv Z h ar kk .byte zc (own_v (bs ++ [own_d1 p0])) (.int 0)
set_option maxRecDepth 65536 in
set_option maxHeartbeats 40000000 in
theorem rm27 (l : Launch) (Z : State) (a0 : Array Value) (hw : ∀ d ∈ tables_1, d.before a0 Z = true) (ws : List Jvm.Cond) (p0 : Int32) (p1 : Int32) (ar : Addr) (kk : ClassId) (zc : Int32) (bs : List Int32) (d1 : Addr) (kd1 : ClassId) (h0 : Heap) (n0 : Nat) (Z0 : n0 ≤ h0.size) (Va : Arv Z h0 ar kk .byte zc (own_v bs) (.int 0)) (ga : n0 ≤ ar) (hd_ : 0 ≤ p0.toInt ∧ p0.toInt ≤ 9) (hp : p1.toInt = ((bs.length + 1 : Nat) : Int)) (hft : ((bs.length + 1 : Nat) : Int) ≤ zc.toInt) (S_d1 : Sta Z h0 "java/lang/Integer" "DigitOnes" "[B" (.ref d1)) (V_d1 : Arv Z h0 d1 kd1 .byte (100 : Int32) own_ones (.int 0)) (nd1 : d1 ≠ ar) :
    MetFree l y_19 (head1 (Jvm.Cond.code y_19 jdk_33_method_12_code 7 (some .int) :: ws) R_0) (fun a U => a = #[(.int p0), (.int p1), (.ref ar)] ∧ Z.Warmed39 U.vm ∧ U.heap = h0) (fun _ _ _ _ _ => True) (fun _ U o U' => ∃ v L, o = .returned v ∧ Q27 Z p0 p1 ar kk zc bs d1 kd1 h0 n0 v U'.heap L ∧ FrameEnd U o U' L R_0.cells R_0.slots) := by
  refine MetFree.of_bodySF (plainFor_of_name own_pn6) hisR ?_
  intro p e s m args below meth c s₁ Bd hml0 hP hK
  obtain ⟨rfl, hZ, hh⟩ := hP
  have hx := Bd.exec
  have hby := Bd.bytes
  have hml : c.maxLocals = 7 := hml0
  have hown : s.vm.findClass "java/lang/Integer" = some m.cls := findClass_of_methodNamed Bd.named
  have hnm := (name_of_methodNamed Bd.named Bd.method).1
  have X0 : Stand p l e R_0 s m #[(.int p0), (.int p1), (.ref ar)] below meth c s₁ [] 0 0 := Stand.of_body Bd
  have e0 : s₁.heap = h0 := by rw [← hh, Bd.state]; rfl
  have N0 := Fr.nil n0
  have KR : Keep h0 h0 [ar] := Keep.refl h0 _
  show Good p e below (fun o U' => ∃ v L, o = .returned v ∧ Q27 Z p0 p1 ar kk zc bs d1 kd1 h0 n0 v U'.heap L ∧ FrameEnd s o U' L R_0.cells R_0.slots) _
  refine Good.back (S' := s₁.setTop (mkF m 0 #[.val (.int p0), .val (.int p1), .val (.ref ar), .unset, .unset, .unset, .unset] [])) (fun t k => castTop (own_ef_27 m p0 p1 ar) k) ?_
  have hng := own_negI hd_
  have hpN : p0.toNatClampNeg ≤ 9 := by have := own_nat (z := p0) hd_.1; omega
  have hpI := own_nat (z := p0) hd_.1
  have f_1 : Arv Z h0 ar kk .byte zc (own_buf bs 1 []) (.int 0) := Va.pad (own_bufPad bs 1)
  show Good p e below _ (s₁.setTop (mkF m 0 (a_IIRu4 p0 p1 ar) []))
  refine Good.back (fun _ k => XS.iloadN X0.here hx rfl (hb hby k27_0.1.1.1) rfl k) ?_
  refine Good.back (fun _ k => XS.istore X0.here hx rfl (hb hby k27_0.1.1.2) rfl (l' := (a_IIRuuIu p0 p1 ar p1)) rfl k) ?_
  refine Good.back (fun _ k => XS.iloadN X0.here hx rfl (hb hby k27_0.1.2.1) rfl k) ?_
  show Good p e below _ (s₁.setTop (mkF m 4 (a_IIRuuIu p0 p1 ar p1) [.int p0]))
  refine Good.back (fun _ k => XS.ifYes X0.here hx rfl (pc0 := 4) (pc' := 11) rfl (hb hby k27_0.1.2.2) rfl ((if0 _ _).trans (flt (own_lt (by rw [show (0 : Int32).toInt = 0 from rfl]; omega))).2.1) (by decide) (by decide) k) ?_
  refine Good.back (fun _ k => XS.iconst X0.here hx rfl (hb hby k27_0.2.1.1) k) ?_
  refine Good.back (fun _ k => XS.istore X0.here hx rfl (hb hby k27_0.2.1.2) rfl (l' := (a_IIRuuII p0 p1 ar p1 0)) rfl k) ?_
  refine Good.back (fun _ k => XS.iload X0.here hx rfl (hb hby k27_0.2.2.1) rfl k) ?_
  refine Good.back (fun _ k => XS.ifNo X0.here hx rfl (hb hby k27_0.2.2.2) rfl ((if0 _ _).trans (teq (by decide : ((0 : Int32) = (0 : Int32)))).2) k) ?_
  refine Good.back (fun _ k => XS.iloadN X0.here hx rfl (hb hby k27_1.1.1.1) rfl k) ?_
  show Good p e below _ (s₁.setTop (mkF m 20 (a_IIRuuII p0 p1 ar p1 0) [.int p0]))
  refine Good.back (fun _ k => XS.ineg X0.here hx rfl (hb hby k27_1.1.1.2) rfl k) ?_
  refine Good.back (fun _ k => XS.istoreN X0.here hx rfl (hb hby k27_1.1.2.1) rfl (l' := (a_IIRuuII (-p0) p1 ar p1 0)) rfl k) ?_
  refine Good.back (fun _ k => XS.iloadN X0.here hx rfl (hb hby k27_1.1.2.2) rfl k) ?_
  refine Good.back (fun _ k => XS.bipush X0.here hx rfl (hb hby k27_1.2.1.1) k) ?_
  show Good p e below _ (s₁.setTop (mkF m 25 (a_IIRuuII (-p0) p1 ar p1 0) [.int (-100 : Int32), .int (-p0)]))
  refine Good.back (fun _ k => XS.icmpYes X0.here hx rfl (pc0 := 25) (pc' := 72) rfl (hb hby k27_1.2.1.2) rfl (tlt (own_lt' (by rw [show (-100 : Int32).toInt = -100 from rfl]; omega))).2.2.1 (by decide) (by decide) k) ?_
  refine Good.back (fun _ k => XS.aloadN X0.here hx rfl (hb hby k27_1.2.2.1) rfl rfl k) ?_
  refine Good.back (fun _ k => XS.iinc X0.here hx rfl (hb hby k27_1.2.2.2) rfl (l' := (a_IIRuuII (-p0) p1 ar (p1 + (-1 : Int32)) 0)) rfl k) ?_
  show Good p e below _ (s₁.setTop (mkF m 76 (a_IIRuuII (-p0) p1 ar (p1 + (-1 : Int32)) 0) [.ref ar]))
  have hc2 := own_dec hp (by omega)
  obtain ⟨c2, ec2⟩ : ∃ z, z = (p1 + (-1 : Int32)) := ⟨_, rfl⟩
  rw [← ec2] at hc2 ⊢
  show Good p e below _ (s₁.setTop (mkF m 76 (a_IIRuuII (-p0) p1 ar c2 0) [.ref ar]))
  refine Good.back (fun _ k => XS.iload X0.here hx rfl (hb hby k27_2.1.1.1) rfl k) ?_
  obtain ⟨T3, X3, e3, st3⟩ := getS2 X0 hx hZ hown (host := "") (Or.inl (wd hw 160 rfl)) Via.refl e0 S_d1 (g := (mkF m 78 (a_IIRuuII (-p0) p1 ar c2 0) [.int c2, .ref ar])) rfl (hb hby k27_2.1.1.2)
  refine Good.back st3 ?_
  refine Good.back (fun _ k => XS.iloadN X3.here hx rfl (hb hby k27_2.1.2.1) rfl k) ?_
  refine Good.back (fun _ k => XS.ineg X3.here hx rfl (hb hby k27_2.1.2.2) rfl k) ?_
  show Good p e below _ (T3.setTop (mkF m 83 (a_IIRuuII (-p0) p1 ar c2 0) [.int (-(-p0)), .ref d1, .int c2, .ref ar]))
  rw [show ((-(-p0)) : Int32) = p0 from hng.2]
  show Good p e below _ (T3.setTop (mkF m 83 (a_IIRuuII (-p0) p1 ar c2 0) [.int p0, .ref d1, .int c2, .ref ar]))
  have fc4 := V_d1
  obtain ⟨cl4, Ar4, qk4, S4, N4', H4, G4⟩ := fc4
  have hin4 : ¬ (p0 < 0 ∨ cl4.slots.size ≤ (p0).toNatClampNeg) := inb_of S4 ⟨own_lt (by rw [show (0 : Int32).toInt = 0 from rfl]; omega), own_lt' (by rw [show (100 : Int32).toInt = 100 from rfl]; omega)⟩
  have hat4 : cl4.slots[(p0).toNatClampNeg]? = some (.int (Int32.ofNat (48 + p0.toNatClampNeg))) := Has.at H4 hin4 (by rw [own_onesAt (by omega), Nat.mod_eq_of_lt (by omega)])
  refine Good.back (X3.baloadBytes hx (j := p0) (v := (.int (Int32.ofNat (48 + p0.toNatClampNeg)))) (by rw [e3]; exact Ar4.1) (State.isArrayOf_alike hZ.alike Ar4.2.1) Ar4.2.2 hin4 hat4 (g := (mkF m 83 (a_IIRuuII (-p0) p1 ar c2 0) [.int p0, .ref d1, .int c2, .ref ar])) rfl rfl (hb hby k27_2.2.1.1)) ?_
  have fc5 := f_1
  obtain ⟨cl5, Ar5, qk5, S5, N5', H5, G5⟩ := fc5
  have hin5 : ¬ (c2 < 0 ∨ cl5.slots.size ≤ (c2).toNatClampNeg) := inb_of S5 ⟨own_lt (by rw [show (0 : Int32).toInt = 0 from rfl]; omega), own_lt' (by omega)⟩
  obtain ⟨T5, h5, X5, e5, W5, st5⟩ := stB X3 hx hZ e3 Ar5 (j := c2) hin5 (g := (mkF m 84 (a_IIRuuII (-p0) p1 ar c2 0) [.int (Int32.ofNat (48 + p0.toNatClampNeg)), .int c2, .ref ar])) rfl rfl (hb hby k27_2.2.1.2)
  refine Good.back st5 ?_
  have f_6 : Arv Z h5 ar kk .byte zc (own_buf bs (1 - 1) ((Int32.ofNat (48 + p0.toNatClampNeg)) :: [])) (.int 0) := (by have q := Arv.set Ar5 qk5 S5 N5' H5 G5 (fits_nar_byte _) W5 (bs.length + (1 - 1)) (by have := own_nat (z := c2) (by omega); omega) (by rw [own_bufLen]; omega); rw [own_b (by omega), own_st (r := 1 - 1) (by omega) rfl] at q; exact q)
  have N5 := Fr.snoc X5 N0 ga
  have Z7 : n0 ≤ h5.size := Nat.le_trans Z0 (Keep.of_wr W5).1
  have K8 : Keep h0 h5 [ar] := KR.wr W5 (Or.inl (List.mem_of_getElem? (i := 0) rfl))
  refine Good.back (fun _ k => XS.iloadN X5.here hx rfl (hb hby k27_2.2.2.1) rfl k) ?_
  refine Good.back (fun _ k => XS.bipush X5.here hx rfl (hb hby k27_2.2.2.2) k) ?_
  show Good p e below _ (T5.setTop (mkF m 88 (a_IIRuuII (-p0) p1 ar c2 0) [.int (-9 : Int32), .int (-p0)]))
  refine Good.back (fun _ k => XS.icmpYes X5.here hx rfl (pc0 := 88) (pc' := 104) rfl (hb hby k27_3.1.1.1) rfl (flt (own_lt (by rw [show (-9 : Int32).toInt = -9 from rfl]; omega))).2.1 (by decide) (by decide) k) ?_
  refine Good.back (fun _ k => XS.iload X5.here hx rfl (hb hby k27_3.1.1.2) rfl k) ?_
  refine Good.back (fun _ k => XS.ifYes X5.here hx rfl (pc0 := 106) (pc' := 118) rfl (hb hby k27_3.1.2) rfl ((if0 _ _).trans (teq (by decide : ((0 : Int32) = (0 : Int32)))).1) (by decide) (by decide) k) ?_
  refine Good.back (fun _ k => XS.iload X5.here hx rfl (hb hby k27_3.2.1) rfl k) ?_
  show Good p e below _ (T5.setTop (mkF m 120 (a_IIRuuII (-p0) p1 ar c2 0) [.int c2]))
  obtain ⟨fs9, hr9, hrun9, hended9, hW9, hsame9⟩ := X5.leave (v := some (.int c2)) (fun h => by rw [Bd.returns] at h; cases h)
  refine Good.done (retI X5 hx Bd.returns (hb hby k27_3.2.2) hr9) hrun9 hended9 ⟨_, _, rfl, ?_, ⟨_, rfl⟩, hW9, hsame9.mono (by decide) (by decide)⟩
  show Q27 Z p0 p1 ar kk zc bs d1 kd1 h0 n0 _ T5.heap _
  rw [e5]
  refine ⟨_, rfl, N5, K8, ?_⟩
  have q := f_6
  rw [show 1 - 1 = 0 from rfl, own_buf0] at q
  exact q
theorem own_pd15 : parseMethodDescriptor "(II[B)I" = some ⟨[.int, .int, (.array .byte)], some .int⟩ := by decide +kernel
abbrev B25 := jdk_68_method_32_code
theorem k25_0 : ((own_A B25 0 (.aload_n 0) 1 ∧ own_A B25 1 (.getfield 79) 3) ∧ own_A B25 4 (.istore_n 2) 1 ∧ own_A B25 5 (.iload_n 2) 1) ∧ (own_A B25 6 (.iload_n 1) 1 ∧ own_A B25 7 (.invokestatic 245) 3) ∧ own_A B25 10 .iadd 1 ∧ own_A B25 11 (.istore_n 3) 1 := by decide +kernel
theorem k25_1 : ((own_A B25 12 (.aload_n 0) 1 ∧ own_A B25 13 (.iload_n 3) 1) ∧ own_A B25 14 (.invokevirtual 100) 3 ∧ own_A B25 17 (.aload_n 0) 1) ∧ (own_A B25 18 (.invokevirtual 83) 3 ∧ own_A B25 21 (.ifCond .eq 16) 3) ∧ own_A B25 24 (.iload_n 1) 1 ∧ own_A B25 25 (.iload_n 3) 1 := by decide +kernel
theorem k25_2 : ((own_A B25 26 (.aload_n 0) 1 ∧ own_A B25 27 (.getfield 15) 3) ∧ own_A B25 30 (.invokestatic 248) 3 ∧ own_A B25 33 .pop 1) ∧ (own_A B25 34 (.goto 14) 3 ∧ own_A B25 48 (.aload_n 0) 1) ∧ own_A B25 49 (.iload_n 3) 1 ∧ own_A B25 50 (.putfield 79) 3 := by decide +kernel
theorem k25_3 : own_A B25 53 (.aload_n 0) 1 ∧ own_A B25 54 .areturn 1 := by decide +kernel
theorem own_ef_25 (m : MethodId) (x0 : Addr) (x1 : Int32) : entryFrame m #[(.ref x0), (.int x1)] 4 = mkF m 0 #[.val (.ref x0), .val (.int x1), .unset, .unset] [] := by first | (simp [entryFrame, mkF, argsToLocals, Value.category]; done) | rfl
def Q25 (Z : State) (r0 : Addr) (p1 : Int32) (cs : Int32) (ar : Addr) (kk : ClassId) (zc : Int32) (ct : Int32) (bs : List Int32) (d1 : Addr) (kd1 : ClassId) (h0 : Heap) (n0 : Nat) (v : Option Value) (h : Heap) (L : List Loc) : Prop := ∃ (a2 : Addr) (k2 : ClassId) (z2 : Int32) (c2 : Int32), v = some (.ref r0) ∧ Fr n0 L ∧ Keep h0 h [r0, ar] ∧ (a2 = ar ∨ h0.size ≤ a2) ∧ Fld Z h r0 "java/lang/AbstractStringBuilder" "coder" "B" (.int 0) ∧ Fld Z h r0 "java/lang/AbstractStringBuilder" "count" "I" (.int c2) ∧ Fld Z h r0 "java/lang/AbstractStringBuilder" "value" "[B" (.ref a2) ∧ Exa Z h a2 "[B" ∧ Arv Z h a2 k2 .byte z2 (own_v (bs ++ [own_d1 p1])) (.int 0) ∧ (c2.toInt = ((bs ++ [own_d1 p1]).length : Int)) ∧ (((bs ++ [own_d1 p1]).length : Int) ≤ z2.toInt ∧ z2.toInt ≤ 200)
set_option maxRecDepth 65536 in
set_option maxHeartbeats 40000000 in
theorem rm25 (l : Launch) (Z : State) (a0 : Array Value) (hw : ∀ d ∈ tables_1, d.before a0 Z = true) (ws : List Jvm.Cond) (r0 : Addr) (p1 : Int32) (cs : Int32) (ar : Addr) (kk : ClassId) (zc : Int32) (ct : Int32) (bs : List Int32) (d1 : Addr) (kd1 : ClassId) (h0 : Heap) (n0 : Nat) (Z0 : n0 ≤ h0.size) (S_cs : Sta Z h0 "java/lang/String" "COMPACT_STRINGS" "Z" (.int cs)) (hcs : ¬ (cs = (0 : Int32))) (E0 : Exa Z h0 r0 "java/lang/StringBuilder") (g0 : n0 ≤ r0) (Fk : Fld Z h0 r0 "java/lang/AbstractStringBuilder" "coder" "B" (.int 0)) (Fc : Fld Z h0 r0 "java/lang/AbstractStringBuilder" "count" "I" (.int ct)) (Fv : Fld Z h0 r0 "java/lang/AbstractStringBuilder" "value" "[B" (.ref ar)) (Ea : Exa Z h0 ar "[B") (Va : Arv Z h0 ar kk .byte zc (own_v bs) (.int 0)) (ga : n0 ≤ ar) (hc : ct.toInt = (bs.length : Int)) (hz : (bs.length : Int) ≤ zc.toInt ∧ zc.toInt ≤ 200) (hd_ : 0 ≤ p1.toInt ∧ p1.toInt ≤ 9) (S_d1 : Sta Z h0 "java/lang/Integer" "DigitOnes" "[B" (.ref d1)) (V_d1 : Arv Z h0 d1 kd1 .byte (100 : Int32) own_ones (.int 0)) (nd1 : d1 ≠ ar) (hap : bs.length + 1 ≤ 100) :
    MetFree l y_20 (head1 (Jvm.Cond.code y_20 jdk_68_method_32_code 4 (some (.object "java/lang/AbstractStringBuilder")) :: ws) R_8) (fun a U => a = #[(.ref r0), (.int p1)] ∧ Z.Warmed39 U.vm ∧ U.heap = h0) (fun _ _ _ _ _ => True) (fun _ U o U' => ∃ v L, o = .returned v ∧ Q25 Z r0 p1 cs ar kk zc ct bs d1 kd1 h0 n0 v U'.heap L ∧ FrameEnd U o U' L R_8.cells R_8.slots) := by
  refine MetFree.of_bodySF (plainFor_of_name own_pn1) hisR ?_
  intro p e s m args below meth c s₁ Bd hml0 hP hK
  obtain ⟨rfl, hZ, hh⟩ := hP
  have hx := Bd.exec
  have hby := Bd.bytes
  have hml : c.maxLocals = 4 := hml0
  have hown : s.vm.findClass "java/lang/AbstractStringBuilder" = some m.cls := findClass_of_methodNamed Bd.named
  have hnm := (name_of_methodNamed Bd.named Bd.method).1
  have X0 : Stand p l e R_8 s m #[(.ref r0), (.int p1)] below meth c s₁ [] 0 0 := Stand.of_body Bd
  have e0 : s₁.heap = h0 := by rw [← hh, Bd.state]; rfl
  have N0 := Fr.nil n0
  have KR : Keep h0 h0 [r0, ar] := Keep.refl h0 _
  show Good p e below (fun o U' => ∃ v L, o = .returned v ∧ Q25 Z r0 p1 cs ar kk zc ct bs d1 kd1 h0 n0 v U'.heap L ∧ FrameEnd s o U' L R_8.cells R_8.slots) _
  refine Good.back (S' := s₁.setTop (mkF m 0 #[.val (.ref r0), .val (.int p1), .unset, .unset] [])) (fun t k => castTop (own_ef_25 m r0 p1) k) ?_
  have hsum := own_sum hc (show (1 : Int32).toInt = ((1 : Nat) : Int) from rfl) (by omega)
  show Good p e below _ (s₁.setTop (mkF m 0 (a_RIuu r0 p1) []))
  refine Good.back (fun _ k => XS.aloadN X0.here hx rfl (hb hby k25_0.1.1.1) rfl rfl k) ?_
  obtain ⟨T1, X1, e1, st1⟩ := getF X0 hx hZ hown (host := "") (Or.inl (wd hw 65 rfl)) Via.refl e0 Fc (g := (mkF m 1 (a_RIuu r0 p1) [.ref r0])) rfl rfl (hb hby k25_0.1.1.2)
  refine Good.back st1 ?_
  refine Good.back (fun _ k => XS.istoreN X1.here hx rfl (hb hby k25_0.1.2.1) rfl (l' := (a_RIIu r0 p1 ct)) rfl k) ?_
  refine Good.back (fun _ k => XS.iloadN X1.here hx rfl (hb hby k25_0.1.2.2) rfl k) ?_
  refine Good.back (fun _ k => XS.iloadN X1.here hx rfl (hb hby k25_0.2.1.1) rfl k) ?_
  obtain ⟨_, _, ⟨T2, L2, k2, n2⟩, -, X2, ⟨Lc2, hQ2, l2, y2, z2⟩, st2⟩ := Jvm.LawKit.callS X1 hx (y := y_18) hown (mvT hZ (wd hw 154 rfl)) (mvT hZ (wd hw 155 rfl)) (mvT hZ (wd hw 118 rfl)) (mvT hZ (wd hw 156 rfl)) (by decide) (backOf (W := 1) (rm26 l Z a0 hw [] p1  h0 n0 Z0 (hd_)) hZ (wd hw 156 rfl) (wd hw 118 rfl) (by decide) (by decide)) (g := (mkF m 7 (a_RIIu r0 p1 ct) [.int p1, .int ct])) rfl (by rw [hml]; rfl) (argsL := [(.int p1)]) (rest := [(.int ct)]) (lenOf own_pd2 rfl) rfl (by show 2 * 0 + _ ≤ _; exact Nat.le_of_eq rfl) (hb hby k25_0.2.1.2) (fun _ _ => ⟨rfl, e1, (by decide : 0 + 0 ≤ _), (by decide : 0 + 0 ≤ _)⟩)
  dsimp only [Pt.U, Pt.locs, Pt.cells, Pt.slots] at X2 l2 y2 z2 st2 hQ2
  subst l2 y2 z2
  obtain ⟨rfl, N2q, eh2⟩ := hQ2
  have N2 := Fr.app N0 N2q
  refine Good.back st2 ?_
  refine Good.back (fun _ k => XS.iadd X2.here hx rfl (hb hby k25_0.2.2.1) rfl k) ?_
  refine Good.back (fun _ k => XS.istoreN X2.here hx rfl (hb hby k25_0.2.2.2) rfl (l' := (a_RI3 r0 p1 ct (ct + (1 : Int32)))) rfl k) ?_
  refine Good.back (fun _ k => XS.aloadN X2.here hx rfl (hb hby k25_1.1.1.1) rfl rfl k) ?_
  refine Good.back (fun _ k => XS.iloadN X2.here hx rfl (hb hby k25_1.1.1.2) rfl k) ?_
  obtain ⟨cq3, qk3, qk3'⟩ := E0.cell
  obtain ⟨_, _, ⟨T3, L3, k3, n3⟩, -, X3, ⟨Lc3, hQ3, l3, y3, z3⟩, st3⟩ := X2.privateBack hx (y := y_5) hown (mvT hZ (wd hw 67 rfl)) (mvT hZ (wd hw 68 rfl)) (own_selPriv (mvT hZ (wd hw 70 rfl)) (mvT hZ (wd hw 68 rfl)) (Cond.privateMethod_at (mvP hZ (wd hw 69 rfl) (args := #[]))) (by decide)) (Cond.privateMethod_at (mvP hZ (wd hw 69 rfl) (args := #[]))) (mvT hZ (wd hw 71 rfl)) (by decide) (backOf (W := 0) (rm10 l Z a0 hw [] r0 (ct + (1 : Int32)) ar kk zc ct bs h0 n0 Z0 E0 g0 Fk Fc Fv Ea Va ga (by first | assumption | decide) (by first | assumption | decide) (by omega)) hZ (wd hw 71 rfl) (wd hw 26 rfl) (by decide) (by decide)) (g := (mkF m 14 (a_RI3 r0 p1 ct (ct + (1 : Int32))) [.int (ct + (1 : Int32)), .ref r0])) rfl (by rw [hml]; rfl) (Steps.refl _) (a := r0) (by rw [eh2]; exact qk3) qk3' (argsL := [(.int (ct + (1 : Int32)))]) (rest := []) (lenOf own_pd8 rfl) rfl (by show 2 * 0 + _ ≤ _; exact Nat.le_of_eq rfl) (hb hby k25_1.1.2.1) (fun _ _ => ⟨rfl, eh2, (by decide : 0 + 1 ≤ _), (by decide : 0 + 200 ≤ _)⟩)
  dsimp only [Pt.U, Pt.locs, Pt.cells, Pt.slots] at X3 l3 y3 z3 st3 hQ3
  subst l3 y3 z3
  obtain ⟨a2_3, k2_3, z2_3, rfl, N3q, Kq3, o3_0, o3_1, o3_2, o3_3, o3_4, o3_5, o3_6, o3_7⟩ := hQ3
  have N3 := Fr.app N2 N3q
  have Z4 : n0 ≤ T3.heap.size := Nat.le_trans Z0 Kq3.1
  have K5 : Keep h0 T3.heap [r0, ar] := KR.trans Kq3 (allS (Or.inl (List.mem_of_getElem? (i := 0) rfl)) all0)
  have g_a2_3 : n0 ≤ a2_3 := own_rel o3_0 ga Z0
  have kp_a2_3 : a2_3 ∈ [r0, ar] ∨ h0.size ≤ a2_3 := own_kp o3_0 (Or.inl (List.mem_of_getElem? (i := 1) rfl)) KR.1
  have ne_d1_a2_3 : d1 ≠ a2_3 := own_neRel o3_0 nd1 V_d1.lt
  refine Good.back (fun _ k => st3.trans k) ?_
  refine Good.back (fun _ k => XS.aloadN X3.here hx rfl (hb hby k25_1.1.2.2) rfl rfl k) ?_
  have f_7 := own_staKeep S_cs Kq3 (allS (own_plainE E0) all0)
  have f_8 := Exa.keep E0 Kq3
  obtain ⟨cq6, kq6, q6a, q6b, q6c⟩ := isOf hZ rfl f_8
  obtain ⟨_, _, ⟨T6, L6, k6, n6⟩, -, X6, ⟨Lc6, hQ6, l6, y6, z6⟩, st6⟩ := X3.virtualBack hx (y := y_15) (z := y_15) hown (mvT hZ (wd hw 108 rfl)) (mvT hZ (wd hw 109 rfl)) (notFace_of_selects (args := #[]) (mvT hZ (wd hw 111 rfl))) (mvT hZ (wd hw 111 rfl)) (mvT hZ (wd hw 110 rfl)) (by decide) (backOf (W := 0) (rm17 l Z a0 hw [] r0 cs T3.heap n0 Z4 f_7 (hcs) o3_1) hZ (wd hw 112 rfl) (wd hw 26 rfl) (by decide) (by decide)) q6a q6c (g := (mkF m 18 (a_RI3 r0 p1 ct (ct + (1 : Int32))) [.ref r0])) rfl (by rw [hml]; rfl) (Steps.refl _) (argsL := []) (rest := []) (lenOf own_pd12 rfl) rfl (by show 2 * 0 + _ ≤ _; exact Nat.le_of_eq rfl) (hb hby k25_1.2.1.1) (fun _ _ => ⟨rfl, rfl, (by decide : 1 + 0 ≤ _), (by decide : 200 + 0 ≤ _)⟩)
  dsimp only [Pt.U, Pt.locs, Pt.cells, Pt.slots] at X6 l6 y6 z6 st6 hQ6
  subst l6 y6 z6
  obtain ⟨rfl, N6q, eh6⟩ := hQ6
  have N6 := Fr.app N3 N6q
  refine Good.back (fun _ k => st6.trans k) ?_
  refine Good.back (fun _ k => XS.ifNo X6.here hx rfl (hb hby k25_1.2.1.2) rfl ((if0 _ _).trans (feq (by decide : ¬ ((1 : Int32) = (0 : Int32)))).1) k) ?_
  refine Good.back (fun _ k => XS.iloadN X6.here hx rfl (hb hby k25_1.2.2.1) rfl k) ?_
  refine Good.back (fun _ k => XS.iloadN X6.here hx rfl (hb hby k25_1.2.2.2) rfl k) ?_
  refine Good.back (fun _ k => XS.aloadN X6.here hx rfl (hb hby k25_2.1.1.1) rfl rfl k) ?_
  obtain ⟨T9, X9, e9, st9⟩ := getF X6 hx hZ hown (host := "") (Or.inl (wd hw 32 rfl)) Via.refl eh6 o3_3 (g := (mkF m 27 (a_RI3 r0 p1 ct (ct + (1 : Int32))) [.ref r0, .int (ct + (1 : Int32)), .int p1])) rfl rfl (hb hby k25_2.1.1.2)
  refine Good.back st9 ?_
  have f_11 := own_staKeep S_d1 Kq3 (allS (own_plainE E0) all0)
  have ne_r0_d1_13 : r0 ≠ d1 := Exa.neArv E0 V_d1 (wd hw 17 rfl)
  have f_12 := Arv.keep V_d1 Kq3 (ninS (Ne.symm ne_r0_d1_13) nin0)
  obtain ⟨_, _, ⟨T10, L10, k10, n10⟩, -, X10, ⟨Lc10, hQ10, l10, y10, z10⟩, st10⟩ := Jvm.LawKit.callS X9 hx (y := y_19) hown (mvT hZ (wd hw 157 rfl)) (mvT hZ (wd hw 158 rfl)) (mvT hZ (wd hw 118 rfl)) (mvT hZ (wd hw 159 rfl)) (by decide) (backOf (W := 0) (rm27 l Z a0 hw [] p1 (ct + (1 : Int32)) a2_3 k2_3 z2_3 bs d1 kd1 T3.heap n0 Z4 o3_5 g_a2_3 (hd_) (hsum) (by omega) f_11 f_12 ne_d1_a2_3) hZ (wd hw 159 rfl) (wd hw 118 rfl) (by decide) (by decide)) (g := (mkF m 30 (a_RI3 r0 p1 ct (ct + (1 : Int32))) [.ref a2_3, .int (ct + (1 : Int32)), .int p1])) rfl (by rw [hml]; rfl) (argsL := [(.int p1), (.int (ct + (1 : Int32))), (.ref a2_3)]) (rest := []) (lenOf own_pd15 rfl) rfl (by show 2 * 0 + _ ≤ _; exact Nat.le_of_eq rfl) (hb hby k25_2.1.2.1) (fun _ _ => ⟨rfl, e9, (by decide : 1 + 0 ≤ _), (by decide : 200 + 0 ≤ _)⟩)
  dsimp only [Pt.U, Pt.locs, Pt.cells, Pt.slots] at X10 l10 y10 z10 st10 hQ10
  subst l10 y10 z10
  obtain ⟨rv_10, rfl, N10q, Kq10, o10_0⟩ := hQ10
  have N10 := Fr.app N6 N10q
  have Z14 : n0 ≤ T10.heap.size := Nat.le_trans Z4 Kq10.1
  have K15 : Keep h0 T10.heap [r0, ar] := K5.trans Kq10 (allS (kp_a2_3) all0)
  refine Good.back st10 ?_
  refine Good.back (fun _ k => XS.pop X10.here hx rfl (hb hby k25_2.1.2.2) rfl rfl k) ?_
  refine Good.back (fun _ k => XS.goto X10.here hx rfl (pc0 := 34) (pc' := 48) rfl (hb hby k25_2.2.1.1) (by decide) (by decide) k) ?_
  refine Good.back (fun _ k => XS.aloadN X10.here hx rfl (hb hby k25_2.2.1.2) rfl rfl k) ?_
  refine Good.back (fun _ k => XS.iloadN X10.here hx rfl (hb hby k25_2.2.2.1) rfl k) ?_
  have f_17 := Exa.keep f_8 Kq10
  have ne_r0_a2_3_18 : r0 ≠ a2_3 := Exa.neArv f_17 o10_0 (wd hw 17 rfl)
  have f_16 := Fld.keep o3_2 Kq10 (ninS ne_r0_a2_3_18 nin0)
  have f_19 := Exa.keep f_8 Kq10
  obtain ⟨T20, h20, X20, e20, W20, st20⟩ := putF X10 hx hZ hown (host := "") (Or.inl (wd hw 65 rfl)) Via.refl rfl f_16 f_19 (Or.inl (wd hw 66 rfl)) (wd hw 17 rfl) (ty := .int) (by decide) rfl rfl (g := (mkF m 50 (a_RI3 r0 p1 ct (ct + (1 : Int32))) [.int (ct + (1 : Int32)), .ref r0])) rfl rfl (hb hby k25_2.2.2.2)
  refine Good.back st20 ?_
  have f_21 : Fld Z h20 r0 "java/lang/AbstractStringBuilder" "count" "I" (.int (ct + (1 : Int32))) := Fld.same W20 f_16
  have N20 := Fr.snoc X20 N10 g0
  have Z22 : n0 ≤ h20.size := Nat.le_trans Z14 (Keep.of_wr W20).1
  have K23 : Keep h0 h20 [r0, ar] := K15.wr W20 (Or.inl (List.mem_of_getElem? (i := 0) rfl))
  refine Good.back (fun _ k => XS.aloadN X20.here hx rfl (hb hby k25_3.1) rfl rfl k) ?_
  show Good p e below _ (T20.setTop (mkF m 54 (a_RI3 r0 p1 ct (ct + (1 : Int32))) [.ref r0]))
  obtain ⟨fs24, hr24, hrun24, hended24, hW24, hsame24⟩ := X20.leave (v := some (.ref r0)) (fun h => by rw [Bd.returns] at h; cases h)
  refine Good.done (retOut X20 hx Bd.returns rfl (Or.inr (Or.inr (Or.inr (Or.inr ⟨rfl, rfl, rfl⟩)))) (hb hby k25_3.2) hr24) hrun24 hended24 ⟨_, _, rfl, ?_, ⟨_, rfl⟩, hW24, hsame24.mono (by decide) (by decide)⟩
  show Q25 Z r0 p1 cs ar kk zc ct bs d1 kd1 h0 n0 _ T20.heap _
  rw [e20]
  have f_25 := Fld.keep o3_1 Kq10 (ninS ne_r0_a2_3_18 nin0)
  have f_26 : Fld Z h20 r0 "java/lang/AbstractStringBuilder" "coder" "B" (.int 0) := Fld.other W20 f_25 (Or.inr (slot_ne (Or.inl (wd hw 35 rfl)) (Or.inl (wd hw 66 rfl)) (by decide) (t := .byte) (t' := .int) (by decide) (by decide)))
  have f_27 := Fld.keep o3_3 Kq10 (ninS ne_r0_a2_3_18 nin0)
  have f_28 : Fld Z h20 r0 "java/lang/AbstractStringBuilder" "value" "[B" (.ref a2_3) := Fld.other W20 f_27 (Or.inr (slot_ne (Or.inl (wd hw 33 rfl)) (Or.inl (wd hw 66 rfl)) (by decide) (t := (.array .byte)) (t' := .int) (by decide) (by decide)))
  have f_29 := Exa.keep o3_4 Kq10
  have f_30 : Exa Z h20 a2_3 "[B" := Exa.wr W20 f_29
  have f_31 : Arv Z h20 a2_3 k2_3 .byte z2_3 (own_v (bs ++ [own_d1 p1])) (.int 0) := Arv.other o10_0 W20 (Ne.symm ne_r0_a2_3_18)
  exact ⟨a2_3, k2_3, z2_3, (ct + (1 : Int32)), rfl, N20, K23, (o3_0), f_26, f_21, f_28, f_30, f_31, (by rw [List.length_append]; exact hsum), (by rw [List.length_append, show [own_d1 p1].length = 1 from rfl]; omega)⟩
theorem own_pd16 : parseMethodDescriptor "(I)Ljava/lang/AbstractStringBuilder;" = some ⟨[.int], some (.object "java/lang/AbstractStringBuilder")⟩ := by decide +kernel
abbrev B24 := jdk_67_method_15_code
theorem k24_0 : ((own_A B24 0 (.aload_n 0) 1 ∧ own_A B24 1 (.iload_n 1) 1) ∧ own_A B24 2 (.invokespecial 53) 3) ∧ (own_A B24 5 .pop 1 ∧ own_A B24 6 (.aload_n 0) 1) ∧ own_A B24 7 .areturn 1 := by decide +kernel
theorem own_ef_24 (m : MethodId) (x0 : Addr) (x1 : Int32) : entryFrame m #[(.ref x0), (.int x1)] 2 = mkF m 0 #[.val (.ref x0), .val (.int x1)] [] := by first | (simp [entryFrame, mkF, argsToLocals, Value.category]; done) | rfl
def Q24 (Z : State) (r0 : Addr) (p1 : Int32) (cs : Int32) (ar : Addr) (kk : ClassId) (zc : Int32) (ct : Int32) (bs : List Int32) (d1 : Addr) (kd1 : ClassId) (h0 : Heap) (n0 : Nat) (v : Option Value) (h : Heap) (L : List Loc) : Prop := ∃ (a2 : Addr) (k2 : ClassId) (z2 : Int32) (c2 : Int32), v = some (.ref r0) ∧ Fr n0 L ∧ Keep h0 h [r0, ar] ∧ (a2 = ar ∨ h0.size ≤ a2) ∧ Fld Z h r0 "java/lang/AbstractStringBuilder" "coder" "B" (.int 0) ∧ Fld Z h r0 "java/lang/AbstractStringBuilder" "count" "I" (.int c2) ∧ Fld Z h r0 "java/lang/AbstractStringBuilder" "value" "[B" (.ref a2) ∧ Exa Z h a2 "[B" ∧ Arv Z h a2 k2 .byte z2 (own_v (bs ++ [own_d1 p1])) (.int 0) ∧ (c2.toInt = ((bs ++ [own_d1 p1]).length : Int)) ∧ (((bs ++ [own_d1 p1]).length : Int) ≤ z2.toInt ∧ z2.toInt ≤ 200)
set_option maxRecDepth 65536 in
set_option maxHeartbeats 40000000 in
theorem rm24 (l : Launch) (Z : State) (a0 : Array Value) (hw : ∀ d ∈ tables_1, d.before a0 Z = true) (ws : List Jvm.Cond) (r0 : Addr) (p1 : Int32) (cs : Int32) (ar : Addr) (kk : ClassId) (zc : Int32) (ct : Int32) (bs : List Int32) (d1 : Addr) (kd1 : ClassId) (h0 : Heap) (n0 : Nat) (Z0 : n0 ≤ h0.size) (S_cs : Sta Z h0 "java/lang/String" "COMPACT_STRINGS" "Z" (.int cs)) (hcs : ¬ (cs = (0 : Int32))) (E0 : Exa Z h0 r0 "java/lang/StringBuilder") (g0 : n0 ≤ r0) (Fk : Fld Z h0 r0 "java/lang/AbstractStringBuilder" "coder" "B" (.int 0)) (Fc : Fld Z h0 r0 "java/lang/AbstractStringBuilder" "count" "I" (.int ct)) (Fv : Fld Z h0 r0 "java/lang/AbstractStringBuilder" "value" "[B" (.ref ar)) (Ea : Exa Z h0 ar "[B") (Va : Arv Z h0 ar kk .byte zc (own_v bs) (.int 0)) (ga : n0 ≤ ar) (hc : ct.toInt = (bs.length : Int)) (hz : (bs.length : Int) ≤ zc.toInt ∧ zc.toInt ≤ 200) (hd_ : 0 ≤ p1.toInt ∧ p1.toInt ≤ 9) (S_d1 : Sta Z h0 "java/lang/Integer" "DigitOnes" "[B" (.ref d1)) (V_d1 : Arv Z h0 d1 kd1 .byte (100 : Int32) own_ones (.int 0)) (nd1 : d1 ≠ ar) (hap : bs.length + 1 ≤ 100) :
    MetFree l y_21 (head1 (Jvm.Cond.code y_21 jdk_67_method_15_code 2 (some (.object "java/lang/StringBuilder")) :: ws) R_11) (fun a U => a = #[(.ref r0), (.int p1)] ∧ Z.Warmed39 U.vm ∧ U.heap = h0) (fun _ _ _ _ _ => True) (fun _ U o U' => ∃ v L, o = .returned v ∧ Q24 Z r0 p1 cs ar kk zc ct bs d1 kd1 h0 n0 v U'.heap L ∧ FrameEnd U o U' L R_11.cells R_11.slots) := by
  refine MetFree.of_bodySF (plainFor_of_name own_pn4) hisR ?_
  intro p e s m args below meth c s₁ Bd hml0 hP hK
  obtain ⟨rfl, hZ, hh⟩ := hP
  have hx := Bd.exec
  have hby := Bd.bytes
  have hml : c.maxLocals = 2 := hml0
  have hown : s.vm.findClass "java/lang/StringBuilder" = some m.cls := findClass_of_methodNamed Bd.named
  have hnm := (name_of_methodNamed Bd.named Bd.method).1
  have X0 : Stand p l e R_11 s m #[(.ref r0), (.int p1)] below meth c s₁ [] 0 0 := Stand.of_body Bd
  have e0 : s₁.heap = h0 := by rw [← hh, Bd.state]; rfl
  have N0 := Fr.nil n0
  have KR : Keep h0 h0 [r0, ar] := Keep.refl h0 _
  show Good p e below (fun o U' => ∃ v L, o = .returned v ∧ Q24 Z r0 p1 cs ar kk zc ct bs d1 kd1 h0 n0 v U'.heap L ∧ FrameEnd s o U' L R_11.cells R_11.slots) _
  refine Good.back (S' := s₁.setTop (mkF m 0 #[.val (.ref r0), .val (.int p1)] [])) (fun t k => castTop (own_ef_24 m r0 p1) k) ?_
  show Good p e below _ (s₁.setTop (mkF m 0 (a_RI r0 p1) []))
  refine Good.back (fun _ k => XS.aloadN X0.here hx rfl (hb hby k24_0.1.1.1) rfl rfl k) ?_
  refine Good.back (fun _ k => XS.iloadN X0.here hx rfl (hb hby k24_0.1.1.2) rfl k) ?_
  obtain ⟨_, _, ⟨T1, L1, k1, n1⟩, -, X1, ⟨Lc1, hQ1, l1, y1, z1⟩, st1⟩ := superBack X0 hx hZ (y := y_20) hown (wd hw 150 rfl) (own_sameM (z := y_5) (wd hw 152 rfl) (wd hw 70 rfl) rfl (by decide)) (wd hw 151 rfl) (wd hw 49 rfl) (by decide) (backOf (W := 0) (rm25 l Z a0 hw [] r0 p1 cs ar kk zc ct bs d1 kd1 h0 n0 Z0 S_cs (hcs) E0 g0 Fk Fc Fv Ea Va ga (by first | assumption | decide) (by first | assumption | decide) (hd_) S_d1 V_d1 nd1 (by first | assumption | decide)) hZ (wd hw 153 rfl) (wd hw 26 rfl) (by decide) (by decide)) e0 (Ins.self E0) (g := (mkF m 2 (a_RI r0 p1) [.int p1, .ref r0])) rfl (by rw [hml]; rfl) (wd hw 153 rfl) (argsL := [(.int p1)]) (rest := []) (lenOf own_pd16 rfl) rfl (by show 2 * 0 + _ ≤ _; exact Nat.le_of_eq rfl) (hb hby k24_0.1.2) (fun _ _ => ⟨rfl, e0, (by decide : 0 + 1 ≤ _), (by decide : 0 + 200 ≤ _)⟩)
  dsimp only [Pt.U, Pt.locs, Pt.cells, Pt.slots] at X1 l1 y1 z1 st1 hQ1
  subst l1 y1 z1
  obtain ⟨a2_1, k2_1, z2_1, c2_1, rfl, N1q, Kq1, o1_0, o1_1, o1_2, o1_3, o1_4, o1_5, o1_6, o1_7⟩ := hQ1
  have N1 := Fr.app N0 N1q
  have Z2 : n0 ≤ T1.heap.size := Nat.le_trans Z0 Kq1.1
  have K3 : Keep h0 T1.heap [r0, ar] := KR.trans Kq1 (allS (Or.inl (List.mem_of_getElem? (i := 0) rfl)) (allS (Or.inl (List.mem_of_getElem? (i := 1) rfl)) all0))
  have g_a2_1 : n0 ≤ a2_1 := own_rel o1_0 ga Z0
  have kp_a2_1 : a2_1 ∈ [r0, ar] ∨ h0.size ≤ a2_1 := own_kp o1_0 (Or.inl (List.mem_of_getElem? (i := 1) rfl)) KR.1
  have ne_d1_a2_1 : d1 ≠ a2_1 := own_neRel o1_0 nd1 V_d1.lt
  refine Good.back (fun _ k => st1.trans k) ?_
  refine Good.back (fun _ k => XS.pop X1.here hx rfl (hb hby k24_0.2.1.1) rfl rfl k) ?_
  refine Good.back (fun _ k => XS.aloadN X1.here hx rfl (hb hby k24_0.2.1.2) rfl rfl k) ?_
  show Good p e below _ (T1.setTop (mkF m 7 (a_RI r0 p1) [.ref r0]))
  obtain ⟨fs4, hr4, hrun4, hended4, hW4, hsame4⟩ := X1.leave (v := some (.ref r0)) (fun h => by rw [Bd.returns] at h; cases h)
  refine Good.done (retOut X1 hx Bd.returns rfl (Or.inr (Or.inr (Or.inr (Or.inr ⟨rfl, rfl, rfl⟩)))) (hb hby k24_0.2.2) hr4) hrun4 hended4 ⟨_, _, rfl, ?_, ⟨_, rfl⟩, hW4, hsame4.mono (by decide) (by decide)⟩
  show Q24 Z r0 p1 cs ar kk zc ct bs d1 kd1 h0 n0 _ T1.heap _
  exact ⟨a2_1, k2_1, z2_1, c2_1, rfl, N1, K3, (o1_0), o1_1, o1_2, o1_3, o1_4, o1_5, (o1_6), (o1_7)⟩
theorem own_pn7 : plainName "java/lang/StringLatin1" = true := by first | (simp [plainName, overriddenIn]; done) | decide +kernel
abbrev B33 := jdk_43_method_3_code
theorem k33_0 : ((own_A B33 0 (.iload_n 0) 1 ∧ own_A B33 1 (.sipush 255) 3) ∧ own_A B33 4 (.if_icmp .gt 7) 3) ∧ (own_A B33 7 (.iconst 1) 1 ∧ own_A B33 8 (.goto 4) 3) ∧ own_A B33 12 .ireturn 1 := by decide +kernel
theorem own_ef_33 (m : MethodId) (x0 : Int32) : entryFrame m #[(.int x0)] 1 = mkF m 0 #[.val (.int x0)] [] := by first | (simp [entryFrame, mkF, argsToLocals, Value.category]; done) | rfl
def Q33 (Z : State) (p0 : Int32) (h0 : Heap) (n0 : Nat) (v : Option Value) (h : Heap) (L : List Loc) : Prop := v = some (.int 1) ∧ Fr n0 L ∧ h = h0
set_option maxRecDepth 65536 in
set_option maxHeartbeats 40000000 in
theorem rm33 (l : Launch) (Z : State) (a0 : Array Value) (hw : ∀ d ∈ tables_1, d.before a0 Z = true) (ws : List Jvm.Cond) (p0 : Int32) (h0 : Heap) (n0 : Nat) (Z0 : n0 ≤ h0.size) (hle : ¬ ((255 : Int32) < p0)) :
    MetFree l y_22 (head1 (Jvm.Cond.code y_22 jdk_43_method_3_code 1 (some .boolean) :: ws) R_0) (fun a U => a = #[(.int p0)] ∧ Z.Warmed39 U.vm ∧ U.heap = h0) (fun _ _ _ _ _ => True) (fun _ U o U' => ∃ v L, o = .returned v ∧ Q33 Z p0 h0 n0 v U'.heap L ∧ FrameEnd U o U' L R_0.cells R_0.slots) := by
  refine MetFree.of_bodySF (plainFor_of_name own_pn7) hisR ?_
  intro p e s m args below meth c s₁ Bd hml0 hP hK
  obtain ⟨rfl, hZ, hh⟩ := hP
  have hx := Bd.exec
  have hby := Bd.bytes
  have hml : c.maxLocals = 1 := hml0
  have hown : s.vm.findClass "java/lang/StringLatin1" = some m.cls := findClass_of_methodNamed Bd.named
  have hnm := (name_of_methodNamed Bd.named Bd.method).1
  have X0 : Stand p l e R_0 s m #[(.int p0)] below meth c s₁ [] 0 0 := Stand.of_body Bd
  have e0 : s₁.heap = h0 := by rw [← hh, Bd.state]; rfl
  have N0 := Fr.nil n0
  show Good p e below (fun o U' => ∃ v L, o = .returned v ∧ Q33 Z p0 h0 n0 v U'.heap L ∧ FrameEnd s o U' L R_0.cells R_0.slots) _
  refine Good.back (S' := s₁.setTop (mkF m 0 #[.val (.int p0)] [])) (fun t k => castTop (own_ef_33 m p0) k) ?_
  show Good p e below _ (s₁.setTop (mkF m 0 (a_I p0) []))
  refine Good.back (fun _ k => XS.iloadN X0.here hx rfl (hb hby k33_0.1.1.1) rfl k) ?_
  refine Good.back (fun _ k => XS.sipush X0.here hx rfl (hb hby k33_0.1.1.2) k) ?_
  show Good p e below _ (s₁.setTop (mkF m 4 (a_I p0) [.int 255, .int p0]))
  refine Good.back (fun _ k => XS.icmpNo X0.here hx rfl (hb hby k33_0.1.2) rfl (flt hle).2.2.1 k) ?_
  refine Good.back (fun _ k => XS.iconst X0.here hx rfl (hb hby k33_0.2.1.1) k) ?_
  refine Good.back (fun _ k => XS.goto X0.here hx rfl (pc0 := 8) (pc' := 12) rfl (hb hby k33_0.2.1.2) (by decide) (by decide) k) ?_
  show Good p e below _ (s₁.setTop (mkF m 12 (a_I p0) [.int 1]))
  obtain ⟨fs1, hr1, hrun1, hended1, hW1, hsame1⟩ := X0.leave (v := some (.int 1)) (fun h => by rw [Bd.returns] at h; cases h)
  refine Good.done (retN X0 hx (t := .boolean) Bd.returns (by simp) (hb hby k33_0.2.2) hr1) hrun1 hended1 ⟨_, _, rfl, ?_, ⟨_, rfl⟩, hW1, hsame1.mono (by decide) (by decide)⟩
  show Q33 Z p0 h0 n0 _ s₁.heap _
  rw [e0]
  exact ⟨rfl, N0, rfl⟩
theorem own_pd17 : parseMethodDescriptor "(C)Z" = some ⟨[.char], some .boolean⟩ := by decide +kernel
abbrev B32 := jdk_68_method_31_code
theorem k32_0 : ((own_A B32 0 (.aload_n 0) 1 ∧ own_A B32 1 (.aload_n 0) 1) ∧ own_A B32 2 (.getfield 79) 3 ∧ own_A B32 5 (.iconst 1) 1) ∧ (own_A B32 6 .iadd 1 ∧ own_A B32 7 (.invokevirtual 100) 3) ∧ own_A B32 10 (.aload_n 0) 1 ∧ own_A B32 11 (.invokevirtual 83) 3 := by decide +kernel
theorem k32_1 : ((own_A B32 14 (.ifCond .eq 31) 3 ∧ own_A B32 17 (.iload_n 1) 1) ∧ own_A B32 18 (.invokestatic 191) 3 ∧ own_A B32 21 (.ifCond .eq 24) 3) ∧ (own_A B32 24 (.aload_n 0) 1 ∧ own_A B32 25 (.getfield 15) 3) ∧ own_A B32 28 (.aload_n 0) 1 ∧ own_A B32 29 .dup 1 := by decide +kernel
theorem k32_2 : ((own_A B32 30 (.getfield 79) 3 ∧ own_A B32 33 .dup_x1 1) ∧ own_A B32 34 (.iconst 1) 1 ∧ own_A B32 35 .iadd 1) ∧ (own_A B32 36 (.putfield 79) 3 ∧ own_A B32 39 (.iload_n 1) 1) ∧ own_A B32 40 .i2b 1 ∧ own_A B32 41 .bastore 1 := by decide +kernel
theorem k32_3 : (own_A B32 42 (.goto 33) 3 ∧ own_A B32 75 (.aload_n 0) 1) ∧ own_A B32 76 .areturn 1 := by decide +kernel
theorem own_ef_32 (m : MethodId) (x0 : Addr) (x1 : Int32) : entryFrame m #[(.ref x0), (.int x1)] 2 = mkF m 0 #[.val (.ref x0), .val (.int x1)] [] := by first | (simp [entryFrame, mkF, argsToLocals, Value.category]; done) | rfl
def Q32 (Z : State) (r0 : Addr) (cs : Int32) (ar : Addr) (kk : ClassId) (zc : Int32) (ct : Int32) (bs : List Int32) (h0 : Heap) (n0 : Nat) (v : Option Value) (h : Heap) (L : List Loc) : Prop := ∃ (a2 : Addr) (k2 : ClassId) (z2 : Int32) (c2 : Int32), v = some (.ref r0) ∧ Fr n0 L ∧ Keep h0 h [r0, ar] ∧ (a2 = ar ∨ h0.size ≤ a2) ∧ Fld Z h r0 "java/lang/AbstractStringBuilder" "coder" "B" (.int 0) ∧ Fld Z h r0 "java/lang/AbstractStringBuilder" "count" "I" (.int c2) ∧ Fld Z h r0 "java/lang/AbstractStringBuilder" "value" "[B" (.ref a2) ∧ Exa Z h a2 "[B" ∧ Arv Z h a2 k2 .byte z2 (own_v (bs ++ [(46 : Int32)])) (.int 0) ∧ (c2.toInt = ((bs ++ [(46 : Int32)]).length : Int)) ∧ (((bs ++ [(46 : Int32)]).length : Int) ≤ z2.toInt ∧ z2.toInt ≤ 200)
set_option maxRecDepth 65536 in
set_option maxHeartbeats 40000000 in
theorem rm32 (l : Launch) (Z : State) (a0 : Array Value) (hw : ∀ d ∈ tables_1, d.before a0 Z = true) (ws : List Jvm.Cond) (r0 : Addr) (cs : Int32) (ar : Addr) (kk : ClassId) (zc : Int32) (ct : Int32) (bs : List Int32) (h0 : Heap) (n0 : Nat) (Z0 : n0 ≤ h0.size) (S_cs : Sta Z h0 "java/lang/String" "COMPACT_STRINGS" "Z" (.int cs)) (hcs : ¬ (cs = (0 : Int32))) (E0 : Exa Z h0 r0 "java/lang/StringBuilder") (g0 : n0 ≤ r0) (Fk : Fld Z h0 r0 "java/lang/AbstractStringBuilder" "coder" "B" (.int 0)) (Fc : Fld Z h0 r0 "java/lang/AbstractStringBuilder" "count" "I" (.int ct)) (Fv : Fld Z h0 r0 "java/lang/AbstractStringBuilder" "value" "[B" (.ref ar)) (Ea : Exa Z h0 ar "[B") (Va : Arv Z h0 ar kk .byte zc (own_v bs) (.int 0)) (ga : n0 ≤ ar) (hc : ct.toInt = (bs.length : Int)) (hz : (bs.length : Int) ≤ zc.toInt ∧ zc.toInt ≤ 200) (hap : bs.length + 1 ≤ 100) :
    MetFree l y_23 (head1 (Jvm.Cond.code y_23 jdk_68_method_31_code 2 (some (.object "java/lang/AbstractStringBuilder")) :: ws) R_8) (fun a U => a = #[(.ref r0), (.int 46)] ∧ Z.Warmed39 U.vm ∧ U.heap = h0) (fun _ _ _ _ _ => True) (fun _ U o U' => ∃ v L, o = .returned v ∧ Q32 Z r0 cs ar kk zc ct bs h0 n0 v U'.heap L ∧ FrameEnd U o U' L R_8.cells R_8.slots) := by
  refine MetFree.of_bodySF (plainFor_of_name own_pn1) hisR ?_
  intro p e s m args below meth c s₁ Bd hml0 hP hK
  obtain ⟨rfl, hZ, hh⟩ := hP
  have hx := Bd.exec
  have hby := Bd.bytes
  have hml : c.maxLocals = 2 := hml0
  have hown : s.vm.findClass "java/lang/AbstractStringBuilder" = some m.cls := findClass_of_methodNamed Bd.named
  have hnm := (name_of_methodNamed Bd.named Bd.method).1
  have X0 : Stand p l e R_8 s m #[(.ref r0), (.int 46)] below meth c s₁ [] 0 0 := Stand.of_body Bd
  have e0 : s₁.heap = h0 := by rw [← hh, Bd.state]; rfl
  have N0 := Fr.nil n0
  have KR : Keep h0 h0 [r0, ar] := Keep.refl h0 _
  show Good p e below (fun o U' => ∃ v L, o = .returned v ∧ Q32 Z r0 cs ar kk zc ct bs h0 n0 v U'.heap L ∧ FrameEnd s o U' L R_8.cells R_8.slots) _
  refine Good.back (S' := s₁.setTop (mkF m 0 #[.val (.ref r0), .val (.int 46)] [])) (fun t k => castTop (own_ef_32 m r0 (46 : Int32)) k) ?_
  have hsum := own_sum hc (show (1 : Int32).toInt = ((1 : Nat) : Int) from rfl) (by omega)
  show Good p e below _ (s₁.setTop (mkF m 0 (a_RI r0 46) []))
  refine Good.back (fun _ k => XS.aloadN X0.here hx rfl (hb hby k32_0.1.1.1) rfl rfl k) ?_
  refine Good.back (fun _ k => XS.aloadN X0.here hx rfl (hb hby k32_0.1.1.2) rfl rfl k) ?_
  obtain ⟨T1, X1, e1, st1⟩ := getF X0 hx hZ hown (host := "") (Or.inl (wd hw 65 rfl)) Via.refl e0 Fc (g := (mkF m 2 (a_RI r0 46) [.ref r0, .ref r0])) rfl rfl (hb hby k32_0.1.2.1)
  refine Good.back st1 ?_
  refine Good.back (fun _ k => XS.iconst X1.here hx rfl (hb hby k32_0.1.2.2) k) ?_
  refine Good.back (fun _ k => XS.iadd X1.here hx rfl (hb hby k32_0.2.1.1) rfl k) ?_
  obtain ⟨cq2, qk2, qk2'⟩ := E0.cell
  obtain ⟨_, _, ⟨T2, L2, k2, n2⟩, -, X2, ⟨Lc2, hQ2, l2, y2, z2⟩, st2⟩ := X1.privateBack hx (y := y_5) hown (mvT hZ (wd hw 67 rfl)) (mvT hZ (wd hw 68 rfl)) (own_selPriv (mvT hZ (wd hw 70 rfl)) (mvT hZ (wd hw 68 rfl)) (Cond.privateMethod_at (mvP hZ (wd hw 69 rfl) (args := #[]))) (by decide)) (Cond.privateMethod_at (mvP hZ (wd hw 69 rfl) (args := #[]))) (mvT hZ (wd hw 71 rfl)) (by decide) (backOf (W := 0) (rm10 l Z a0 hw [] r0 (ct + (1 : Int32)) ar kk zc ct bs h0 n0 Z0 E0 g0 Fk Fc Fv Ea Va ga (by first | assumption | decide) (by first | assumption | decide) (by omega)) hZ (wd hw 71 rfl) (wd hw 26 rfl) (by decide) (by decide)) (g := (mkF m 7 (a_RI r0 46) [.int (ct + (1 : Int32)), .ref r0])) rfl (by rw [hml]; rfl) (Steps.refl _) (a := r0) (by rw [e1]; exact qk2) qk2' (argsL := [(.int (ct + (1 : Int32)))]) (rest := []) (lenOf own_pd8 rfl) rfl (by show 2 * 0 + _ ≤ _; exact Nat.le_of_eq rfl) (hb hby k32_0.2.1.2) (fun _ _ => ⟨rfl, e1, (by decide : 0 + 1 ≤ _), (by decide : 0 + 200 ≤ _)⟩)
  dsimp only [Pt.U, Pt.locs, Pt.cells, Pt.slots] at X2 l2 y2 z2 st2 hQ2
  subst l2 y2 z2
  obtain ⟨a2_2, k2_2, z2_2, rfl, N2q, Kq2, o2_0, o2_1, o2_2, o2_3, o2_4, o2_5, o2_6, o2_7⟩ := hQ2
  have N2 := Fr.app N0 N2q
  have Z3 : n0 ≤ T2.heap.size := Nat.le_trans Z0 Kq2.1
  have K4 : Keep h0 T2.heap [r0, ar] := KR.trans Kq2 (allS (Or.inl (List.mem_of_getElem? (i := 0) rfl)) all0)
  have g_a2_2 : n0 ≤ a2_2 := own_rel o2_0 ga Z0
  have kp_a2_2 : a2_2 ∈ [r0, ar] ∨ h0.size ≤ a2_2 := own_kp o2_0 (Or.inl (List.mem_of_getElem? (i := 1) rfl)) KR.1
  refine Good.back (fun _ k => st2.trans k) ?_
  refine Good.back (fun _ k => XS.aloadN X2.here hx rfl (hb hby k32_0.2.2.1) rfl rfl k) ?_
  have f_6 := own_staKeep S_cs Kq2 (allS (own_plainE E0) all0)
  have f_7 := Exa.keep E0 Kq2
  obtain ⟨cq5, kq5, q5a, q5b, q5c⟩ := isOf hZ rfl f_7
  obtain ⟨_, _, ⟨T5, L5, k5, n5⟩, -, X5, ⟨Lc5, hQ5, l5, y5, z5⟩, st5⟩ := X2.virtualBack hx (y := y_15) (z := y_15) hown (mvT hZ (wd hw 108 rfl)) (mvT hZ (wd hw 109 rfl)) (notFace_of_selects (args := #[]) (mvT hZ (wd hw 111 rfl))) (mvT hZ (wd hw 111 rfl)) (mvT hZ (wd hw 110 rfl)) (by decide) (backOf (W := 0) (rm17 l Z a0 hw [] r0 cs T2.heap n0 Z3 f_6 (hcs) o2_1) hZ (wd hw 112 rfl) (wd hw 26 rfl) (by decide) (by decide)) q5a q5c (g := (mkF m 11 (a_RI r0 46) [.ref r0])) rfl (by rw [hml]; rfl) (Steps.refl _) (argsL := []) (rest := []) (lenOf own_pd12 rfl) rfl (by show 2 * 0 + _ ≤ _; exact Nat.le_of_eq rfl) (hb hby k32_0.2.2.2) (fun _ _ => ⟨rfl, rfl, (by decide : 1 + 0 ≤ _), (by decide : 200 + 0 ≤ _)⟩)
  dsimp only [Pt.U, Pt.locs, Pt.cells, Pt.slots] at X5 l5 y5 z5 st5 hQ5
  subst l5 y5 z5
  obtain ⟨rfl, N5q, eh5⟩ := hQ5
  have N5 := Fr.app N2 N5q
  refine Good.back (fun _ k => st5.trans k) ?_
  refine Good.back (fun _ k => XS.ifNo X5.here hx rfl (hb hby k32_1.1.1.1) rfl ((if0 _ _).trans (feq (by decide : ¬ ((1 : Int32) = (0 : Int32)))).1) k) ?_
  refine Good.back (fun _ k => XS.iloadN X5.here hx rfl (hb hby k32_1.1.1.2) rfl k) ?_
  obtain ⟨_, _, ⟨T8, L8, k8, n8⟩, -, X8, ⟨Lc8, hQ8, l8, y8, z8⟩, st8⟩ := Jvm.LawKit.callS X5 hx (y := y_22) hown (mvT hZ (wd hw 191 rfl)) (mvT hZ (wd hw 192 rfl)) (mvT hZ (wd hw 193 rfl)) (mvT hZ (wd hw 194 rfl)) (by decide) (backOf (W := 0) (rm33 l Z a0 hw [] (46 : Int32)  T2.heap n0 Z3 (by first | assumption | decide)) hZ (wd hw 194 rfl) (wd hw 193 rfl) (by decide) (by decide)) (g := (mkF m 18 (a_RI r0 46) [.int 46])) rfl (by rw [hml]; rfl) (argsL := [(.int 46)]) (rest := []) (lenOf own_pd17 rfl) rfl (by show 2 * 0 + _ ≤ _; exact Nat.le_of_eq rfl) (hb hby k32_1.1.2.1) (fun _ _ => ⟨rfl, eh5, (by decide : 1 + 0 ≤ _), (by decide : 200 + 0 ≤ _)⟩)
  dsimp only [Pt.U, Pt.locs, Pt.cells, Pt.slots] at X8 l8 y8 z8 st8 hQ8
  subst l8 y8 z8
  obtain ⟨rfl, N8q, eh8⟩ := hQ8
  have N8 := Fr.app N5 N8q
  refine Good.back st8 ?_
  refine Good.back (fun _ k => XS.ifNo X8.here hx rfl (hb hby k32_1.1.2.2) rfl ((if0 _ _).trans (feq (by decide : ¬ ((1 : Int32) = (0 : Int32)))).1) k) ?_
  have f_9 : Arv Z T2.heap a2_2 k2_2 .byte z2_2 (own_buf bs 1 []) (.int 0) := o2_5.pad (own_bufPad bs 1)
  show Good p e below _ (T8.setTop (mkF m 24 (a_RI r0 46) []))
  refine Good.back (fun _ k => XS.aloadN X8.here hx rfl (hb hby k32_1.2.1.1) rfl rfl k) ?_
  obtain ⟨T10, X10, e10, st10⟩ := getF X8 hx hZ hown (host := "") (Or.inl (wd hw 32 rfl)) Via.refl eh8 o2_3 (g := (mkF m 25 (a_RI r0 46) [.ref r0])) rfl rfl (hb hby k32_1.2.1.2)
  refine Good.back st10 ?_
  refine Good.back (fun _ k => XS.aloadN X10.here hx rfl (hb hby k32_1.2.2.1) rfl rfl k) ?_
  refine Good.back (fun _ k => XS.dup X10.here hx rfl (hb hby k32_1.2.2.2) rfl rfl k) ?_
  obtain ⟨T11, X11, e11, st11⟩ := getF X10 hx hZ hown (host := "") (Or.inl (wd hw 65 rfl)) Via.refl e10 o2_2 (g := (mkF m 30 (a_RI r0 46) [.ref r0, .ref r0, .ref a2_2])) rfl rfl (hb hby k32_2.1.1.1)
  refine Good.back st11 ?_
  show Good p e below _ (T11.setTop (mkF m 33 (a_RI r0 46) [.int ct, .ref r0, .ref a2_2]))
  refine Good.back (fun _ k => XS.dupX1 X11.here hx rfl (hb hby k32_2.1.1.2) rfl rfl rfl k) ?_
  show Good p e below _ (T11.setTop (mkF m 34 (a_RI r0 46) [.int ct, .ref r0, .int ct, .ref a2_2]))
  refine Good.back (fun _ k => XS.iconst X11.here hx rfl (hb hby k32_2.1.2.1) k) ?_
  refine Good.back (fun _ k => XS.iadd X11.here hx rfl (hb hby k32_2.1.2.2) rfl k) ?_
  obtain ⟨T12, h12, X12, e12, W12, st12⟩ := putF X11 hx hZ hown (host := "") (Or.inl (wd hw 65 rfl)) Via.refl e11 o2_2 f_7 (Or.inl (wd hw 66 rfl)) (wd hw 17 rfl) (ty := .int) (by decide) rfl rfl (g := (mkF m 36 (a_RI r0 46) [.int (ct + (1 : Int32)), .ref r0, .int ct, .ref a2_2])) rfl rfl (hb hby k32_2.2.1.1)
  refine Good.back st12 ?_
  have f_13 : Fld Z h12 r0 "java/lang/AbstractStringBuilder" "count" "I" (.int (ct + (1 : Int32))) := Fld.same W12 o2_2
  have N12 := Fr.snoc X12 N8 g0
  have Z14 : n0 ≤ h12.size := Nat.le_trans Z3 (Keep.of_wr W12).1
  have K15 : Keep h0 h12 [r0, ar] := K4.wr W12 (Or.inl (List.mem_of_getElem? (i := 0) rfl))
  refine Good.back (fun _ k => XS.iloadN X12.here hx rfl (hb hby k32_2.2.1.2) rfl k) ?_
  refine Good.back (fun _ k => XS.i2b X12.here hx rfl (hb hby k32_2.2.2.1) rfl k) ?_
  show Good p e below _ (T12.setTop (mkF m 41 (a_RI r0 46) [.int ((46 : Int32).toInt8.toInt32), .int ct, .ref a2_2]))
  rw [show (((46 : Int32).toInt8.toInt32) : Int32) = (46 : Int32) from by decide]
  show Good p e below _ (T12.setTop (mkF m 41 (a_RI r0 46) [.int 46, .int ct, .ref a2_2]))
  have ne_a2_2_r0_17 : a2_2 ≠ r0 := Exa.ne o2_4 f_7 (by decide)
  have f_16 : Arv Z h12 a2_2 k2_2 .byte z2_2 (own_buf bs 1 []) (.int 0) := Arv.other f_9 W12 ne_a2_2_r0_17
  have fc18 := f_16
  obtain ⟨cl18, Ar18, qk18, S18, N18', H18, G18⟩ := fc18
  have hin18 : ¬ (ct < 0 ∨ cl18.slots.size ≤ (ct).toNatClampNeg) := inb_of S18 ⟨own_lt (by rw [show (0 : Int32).toInt = 0 from rfl]; omega), own_lt' (by omega)⟩
  obtain ⟨T18, h18, X18, e18, W18, st18⟩ := stB X12 hx hZ e12 Ar18 (j := ct) hin18 (g := (mkF m 41 (a_RI r0 46) [.int 46, .int ct, .ref a2_2])) rfl rfl (hb hby k32_2.2.2.2)
  refine Good.back st18 ?_
  have f_19 : Arv Z h18 a2_2 k2_2 .byte z2_2 (own_buf bs (1 - 1) ((46 : Int32) :: [])) (.int 0) := (by have q := Arv.set Ar18 qk18 S18 N18' H18 G18 (fits_nar_byte _) W18 (bs.length + (1 - 1)) (by have := own_nat (z := ct) (by omega); omega) (by rw [own_bufLen]; omega); rw [show (46 : Int32).toInt8.toInt32 = (46 : Int32) from rfl, own_st (r := 1 - 1) (by omega) rfl] at q; exact q)
  have N18 := Fr.snoc X18 N12 g_a2_2
  have Z20 : n0 ≤ h18.size := Nat.le_trans Z14 (Keep.of_wr W18).1
  have K21 : Keep h0 h18 [r0, ar] := K15.wr W18 (kp_a2_2)
  refine Good.back (fun _ k => XS.goto X18.here hx rfl (pc0 := 42) (pc' := 75) rfl (hb hby k32_3.1.1) (by decide) (by decide) k) ?_
  have f_22 : Arv Z h18 a2_2 k2_2 .byte z2_2 (own_v (bs ++ [(46 : Int32)])) (.int 0) := (by have q := f_19; rw [show 1 - 1 = 0 from rfl, own_buf0] at q; exact q)
  show Good p e below _ (T18.setTop (mkF m 75 (a_RI r0 46) []))
  refine Good.back (fun _ k => XS.aloadN X18.here hx rfl (hb hby k32_3.1.2) rfl rfl k) ?_
  show Good p e below _ (T18.setTop (mkF m 76 (a_RI r0 46) [.ref r0]))
  obtain ⟨fs23, hr23, hrun23, hended23, hW23, hsame23⟩ := X18.leave (v := some (.ref r0)) (fun h => by rw [Bd.returns] at h; cases h)
  refine Good.done (retOut X18 hx Bd.returns rfl (Or.inr (Or.inr (Or.inr (Or.inr ⟨rfl, rfl, rfl⟩)))) (hb hby k32_3.2) hr23) hrun23 hended23 ⟨_, _, rfl, ?_, ⟨_, rfl⟩, hW23, hsame23.mono (by decide) (by decide)⟩
  show Q32 Z r0 cs ar kk zc ct bs h0 n0 _ T18.heap _
  rw [e18]
  have f_24 : Fld Z h12 r0 "java/lang/AbstractStringBuilder" "coder" "B" (.int 0) := Fld.other W12 o2_1 (Or.inr (slot_ne (Or.inl (wd hw 35 rfl)) (Or.inl (wd hw 66 rfl)) (by decide) (t := .byte) (t' := .int) (by decide) (by decide)))
  have f_25 : Fld Z h18 r0 "java/lang/AbstractStringBuilder" "coder" "B" (.int 0) := Fld.other W18 f_24 (Or.inl (Ne.symm ne_a2_2_r0_17))
  have f_26 : Fld Z h18 r0 "java/lang/AbstractStringBuilder" "count" "I" (.int (ct + (1 : Int32))) := Fld.other W18 f_13 (Or.inl (Ne.symm ne_a2_2_r0_17))
  have f_27 : Fld Z h12 r0 "java/lang/AbstractStringBuilder" "value" "[B" (.ref a2_2) := Fld.other W12 o2_3 (Or.inr (slot_ne (Or.inl (wd hw 33 rfl)) (Or.inl (wd hw 66 rfl)) (by decide) (t := (.array .byte)) (t' := .int) (by decide) (by decide)))
  have f_28 : Fld Z h18 r0 "java/lang/AbstractStringBuilder" "value" "[B" (.ref a2_2) := Fld.other W18 f_27 (Or.inl (Ne.symm ne_a2_2_r0_17))
  have f_29 : Exa Z h12 a2_2 "[B" := Exa.wr W12 o2_4
  have f_30 : Exa Z h18 a2_2 "[B" := Exa.wr W18 f_29
  exact ⟨a2_2, k2_2, z2_2, (ct + (1 : Int32)), rfl, N18, K21, (o2_0), f_25, f_26, f_28, f_30, f_22, (by rw [List.length_append]; exact hsum), (by rw [List.length_append, show [(46 : Int32)].length = 1 from rfl]; omega)⟩
theorem own_pd18 : parseMethodDescriptor "(C)Ljava/lang/AbstractStringBuilder;" = some ⟨[.char], some (.object "java/lang/AbstractStringBuilder")⟩ := by decide +kernel
abbrev B31 := jdk_67_method_14_code
theorem k31_0 : ((own_A B31 0 (.aload_n 0) 1 ∧ own_A B31 1 (.iload_n 1) 1) ∧ own_A B31 2 (.invokespecial 50) 3) ∧ (own_A B31 5 .pop 1 ∧ own_A B31 6 (.aload_n 0) 1) ∧ own_A B31 7 .areturn 1 := by decide +kernel
theorem own_ef_31 (m : MethodId) (x0 : Addr) (x1 : Int32) : entryFrame m #[(.ref x0), (.int x1)] 2 = mkF m 0 #[.val (.ref x0), .val (.int x1)] [] := by first | (simp [entryFrame, mkF, argsToLocals, Value.category]; done) | rfl
def Q31 (Z : State) (r0 : Addr) (cs : Int32) (ar : Addr) (kk : ClassId) (zc : Int32) (ct : Int32) (bs : List Int32) (h0 : Heap) (n0 : Nat) (v : Option Value) (h : Heap) (L : List Loc) : Prop := ∃ (a2 : Addr) (k2 : ClassId) (z2 : Int32) (c2 : Int32), v = some (.ref r0) ∧ Fr n0 L ∧ Keep h0 h [r0, ar] ∧ (a2 = ar ∨ h0.size ≤ a2) ∧ Fld Z h r0 "java/lang/AbstractStringBuilder" "coder" "B" (.int 0) ∧ Fld Z h r0 "java/lang/AbstractStringBuilder" "count" "I" (.int c2) ∧ Fld Z h r0 "java/lang/AbstractStringBuilder" "value" "[B" (.ref a2) ∧ Exa Z h a2 "[B" ∧ Arv Z h a2 k2 .byte z2 (own_v (bs ++ [(46 : Int32)])) (.int 0) ∧ (c2.toInt = ((bs ++ [(46 : Int32)]).length : Int)) ∧ (((bs ++ [(46 : Int32)]).length : Int) ≤ z2.toInt ∧ z2.toInt ≤ 200)
set_option maxRecDepth 65536 in
set_option maxHeartbeats 40000000 in
theorem rm31 (l : Launch) (Z : State) (a0 : Array Value) (hw : ∀ d ∈ tables_1, d.before a0 Z = true) (ws : List Jvm.Cond) (r0 : Addr) (cs : Int32) (ar : Addr) (kk : ClassId) (zc : Int32) (ct : Int32) (bs : List Int32) (h0 : Heap) (n0 : Nat) (Z0 : n0 ≤ h0.size) (S_cs : Sta Z h0 "java/lang/String" "COMPACT_STRINGS" "Z" (.int cs)) (hcs : ¬ (cs = (0 : Int32))) (E0 : Exa Z h0 r0 "java/lang/StringBuilder") (g0 : n0 ≤ r0) (Fk : Fld Z h0 r0 "java/lang/AbstractStringBuilder" "coder" "B" (.int 0)) (Fc : Fld Z h0 r0 "java/lang/AbstractStringBuilder" "count" "I" (.int ct)) (Fv : Fld Z h0 r0 "java/lang/AbstractStringBuilder" "value" "[B" (.ref ar)) (Ea : Exa Z h0 ar "[B") (Va : Arv Z h0 ar kk .byte zc (own_v bs) (.int 0)) (ga : n0 ≤ ar) (hc : ct.toInt = (bs.length : Int)) (hz : (bs.length : Int) ≤ zc.toInt ∧ zc.toInt ≤ 200) (hap : bs.length + 1 ≤ 100) :
    MetFree l y_24 (head1 (Jvm.Cond.code y_24 jdk_67_method_14_code 2 (some (.object "java/lang/StringBuilder")) :: ws) R_12) (fun a U => a = #[(.ref r0), (.int 46)] ∧ Z.Warmed39 U.vm ∧ U.heap = h0) (fun _ _ _ _ _ => True) (fun _ U o U' => ∃ v L, o = .returned v ∧ Q31 Z r0 cs ar kk zc ct bs h0 n0 v U'.heap L ∧ FrameEnd U o U' L R_12.cells R_12.slots) := by
  refine MetFree.of_bodySF (plainFor_of_name own_pn4) hisR ?_
  intro p e s m args below meth c s₁ Bd hml0 hP hK
  obtain ⟨rfl, hZ, hh⟩ := hP
  have hx := Bd.exec
  have hby := Bd.bytes
  have hml : c.maxLocals = 2 := hml0
  have hown : s.vm.findClass "java/lang/StringBuilder" = some m.cls := findClass_of_methodNamed Bd.named
  have hnm := (name_of_methodNamed Bd.named Bd.method).1
  have X0 : Stand p l e R_12 s m #[(.ref r0), (.int 46)] below meth c s₁ [] 0 0 := Stand.of_body Bd
  have e0 : s₁.heap = h0 := by rw [← hh, Bd.state]; rfl
  have N0 := Fr.nil n0
  have KR : Keep h0 h0 [r0, ar] := Keep.refl h0 _
  show Good p e below (fun o U' => ∃ v L, o = .returned v ∧ Q31 Z r0 cs ar kk zc ct bs h0 n0 v U'.heap L ∧ FrameEnd s o U' L R_12.cells R_12.slots) _
  refine Good.back (S' := s₁.setTop (mkF m 0 #[.val (.ref r0), .val (.int 46)] [])) (fun t k => castTop (own_ef_31 m r0 (46 : Int32)) k) ?_
  show Good p e below _ (s₁.setTop (mkF m 0 (a_RI r0 46) []))
  refine Good.back (fun _ k => XS.aloadN X0.here hx rfl (hb hby k31_0.1.1.1) rfl rfl k) ?_
  refine Good.back (fun _ k => XS.iloadN X0.here hx rfl (hb hby k31_0.1.1.2) rfl k) ?_
  obtain ⟨_, _, ⟨T1, L1, k1, n1⟩, -, X1, ⟨Lc1, hQ1, l1, y1, z1⟩, st1⟩ := superBack X0 hx hZ (y := y_23) hown (wd hw 187 rfl) (own_sameM (z := y_5) (wd hw 189 rfl) (wd hw 70 rfl) rfl (by decide)) (wd hw 188 rfl) (wd hw 49 rfl) (by decide) (backOf (W := 0) (rm32 l Z a0 hw [] r0 cs ar kk zc ct bs h0 n0 Z0 S_cs (hcs) E0 g0 Fk Fc Fv Ea Va ga (by first | assumption | decide) (by first | assumption | decide) (by first | assumption | decide)) hZ (wd hw 190 rfl) (wd hw 26 rfl) (by decide) (by decide)) e0 (Ins.self E0) (g := (mkF m 2 (a_RI r0 46) [.int 46, .ref r0])) rfl (by rw [hml]; rfl) (wd hw 190 rfl) (argsL := [(.int 46)]) (rest := []) (lenOf own_pd18 rfl) rfl (by show 2 * 0 + _ ≤ _; exact Nat.le_of_eq rfl) (hb hby k31_0.1.2) (fun _ _ => ⟨rfl, e0, (by decide : 0 + 1 ≤ _), (by decide : 0 + 200 ≤ _)⟩)
  dsimp only [Pt.U, Pt.locs, Pt.cells, Pt.slots] at X1 l1 y1 z1 st1 hQ1
  subst l1 y1 z1
  obtain ⟨a2_1, k2_1, z2_1, c2_1, rfl, N1q, Kq1, o1_0, o1_1, o1_2, o1_3, o1_4, o1_5, o1_6, o1_7⟩ := hQ1
  have N1 := Fr.app N0 N1q
  have Z2 : n0 ≤ T1.heap.size := Nat.le_trans Z0 Kq1.1
  have K3 : Keep h0 T1.heap [r0, ar] := KR.trans Kq1 (allS (Or.inl (List.mem_of_getElem? (i := 0) rfl)) (allS (Or.inl (List.mem_of_getElem? (i := 1) rfl)) all0))
  have g_a2_1 : n0 ≤ a2_1 := own_rel o1_0 ga Z0
  have kp_a2_1 : a2_1 ∈ [r0, ar] ∨ h0.size ≤ a2_1 := own_kp o1_0 (Or.inl (List.mem_of_getElem? (i := 1) rfl)) KR.1
  refine Good.back (fun _ k => st1.trans k) ?_
  refine Good.back (fun _ k => XS.pop X1.here hx rfl (hb hby k31_0.2.1.1) rfl rfl k) ?_
  refine Good.back (fun _ k => XS.aloadN X1.here hx rfl (hb hby k31_0.2.1.2) rfl rfl k) ?_
  show Good p e below _ (T1.setTop (mkF m 7 (a_RI r0 46) [.ref r0]))
  obtain ⟨fs4, hr4, hrun4, hended4, hW4, hsame4⟩ := X1.leave (v := some (.ref r0)) (fun h => by rw [Bd.returns] at h; cases h)
  refine Good.done (retOut X1 hx Bd.returns rfl (Or.inr (Or.inr (Or.inr (Or.inr ⟨rfl, rfl, rfl⟩)))) (hb hby k31_0.2.2) hr4) hrun4 hended4 ⟨_, _, rfl, ?_, ⟨_, rfl⟩, hW4, hsame4.mono (by decide) (by decide)⟩
  show Q31 Z r0 cs ar kk zc ct bs h0 n0 _ T1.heap _
  exact ⟨a2_1, k2_1, z2_1, c2_1, rfl, N1, K3, (o1_0), o1_1, o1_2, o1_3, o1_4, o1_5, (o1_6), (o1_7)⟩
abbrev B5 := jdk_68_method_2_code
theorem k5_0 : ((own_A B5 0 (.aload_n 0) 1 ∧ own_A B5 1 (.invokespecial 3) 3) ∧ own_A B5 4 (.getstatic 18) 3 ∧ own_A B5 7 (.ifCond .eq 18) 3) ∧ (own_A B5 10 (.aload_n 0) 1 ∧ own_A B5 11 (.iload_n 1) 1) ∧ own_A B5 12 (.newarray .byte) 2 ∧ own_A B5 14 (.putfield 15) 3 := by decide +kernel
theorem k5_1 : ((own_A B5 17 (.aload_n 0) 1 ∧ own_A B5 18 (.iconst 0) 1) ∧ own_A B5 19 (.putfield 22) 3) ∧ own_A B5 22 (.goto 16) 3 ∧ own_A B5 38 .return_ 1 := by decide +kernel
theorem own_ef_5 (m : MethodId) (x0 : Addr) (x1 : Int32) : entryFrame m #[(.ref x0), (.int x1)] 2 = mkF m 0 #[.val (.ref x0), .val (.int x1)] [] := by first | (simp [entryFrame, mkF, argsToLocals, Value.category]; done) | rfl
def Q5 (Z : State) (r0 : Addr) (cs : Int32) (h0 : Heap) (n0 : Nat) (v : Option Value) (h : Heap) (L : List Loc) : Prop := ∃ (a2 : Addr) (k2 : ClassId), v = none ∧ Fr n0 L ∧ Keep h0 h [r0] ∧ h0.size ≤ a2 ∧ Exa Z h a2 "[B" ∧ Arv Z h a2 k2 .byte (16 : Int32) (own_v []) (.int 0) ∧ Fld Z h r0 "java/lang/AbstractStringBuilder" "value" "[B" (.ref a2) ∧ Fld Z h r0 "java/lang/AbstractStringBuilder" "coder" "B" (.int 0) ∧ Fld Z h r0 "java/lang/AbstractStringBuilder" "count" "I" (.int 0)
set_option maxRecDepth 65536 in
set_option maxHeartbeats 40000000 in
theorem rm5 (l : Launch) (Z : State) (a0 : Array Value) (hw : ∀ d ∈ tables_1, d.before a0 Z = true) (ws : List Jvm.Cond) (r0 : Addr) (cs : Int32) (h0 : Heap) (n0 : Nat) (Z0 : n0 ≤ h0.size) (S_cs : Sta Z h0 "java/lang/String" "COMPACT_STRINGS" "Z" (.int cs)) (hcs : ¬ (cs = (0 : Int32))) (E0 : Exa Z h0 r0 "java/lang/StringBuilder") (g0 : n0 ≤ r0) (Fv : Fld Z h0 r0 "java/lang/AbstractStringBuilder" "value" "[B" .null) (Fk : Fld Z h0 r0 "java/lang/AbstractStringBuilder" "coder" "B" (.int 0)) (Fc : Fld Z h0 r0 "java/lang/AbstractStringBuilder" "count" "I" (.int 0)) :
    MetFree l y_25 (head1 (Jvm.Cond.code y_25 jdk_68_method_2_code 2 none :: ws) R_13) (fun a U => a = #[(.ref r0), (.int 16)] ∧ Z.Warmed39 U.vm ∧ U.heap = h0) (fun _ _ _ _ _ => True) (fun _ U o U' => ∃ v L, o = .returned v ∧ Q5 Z r0 cs h0 n0 v U'.heap L ∧ FrameEnd U o U' L R_13.cells R_13.slots) := by
  refine MetFree.of_bodySF (plainFor_of_name own_pn1) hisR ?_
  intro p e s m args below meth c s₁ Bd hml0 hP hK
  obtain ⟨rfl, hZ, hh⟩ := hP
  have hx := Bd.exec
  have hby := Bd.bytes
  have hml : c.maxLocals = 2 := hml0
  have hown : s.vm.findClass "java/lang/AbstractStringBuilder" = some m.cls := findClass_of_methodNamed Bd.named
  have hnm := (name_of_methodNamed Bd.named Bd.method).1
  have X0 : Stand p l e R_13 s m #[(.ref r0), (.int 16)] below meth c s₁ [] 0 0 := Stand.of_body Bd
  have e0 : s₁.heap = h0 := by rw [← hh, Bd.state]; rfl
  have N0 := Fr.nil n0
  have KR : Keep h0 h0 [r0] := Keep.refl h0 _
  show Good p e below (fun o U' => ∃ v L, o = .returned v ∧ Q5 Z r0 cs h0 n0 v U'.heap L ∧ FrameEnd s o U' L R_13.cells R_13.slots) _
  refine Good.back (S' := s₁.setTop (mkF m 0 #[.val (.ref r0), .val (.int 16)] [])) (fun t k => castTop (own_ef_5 m r0 (16 : Int32)) k) ?_
  show Good p e below _ (s₁.setTop (mkF m 0 (a_RI r0 16) []))
  refine Good.back (fun _ k => XS.aloadN X0.here hx rfl (hb hby k5_0.1.1.1) rfl rfl k) ?_
  obtain ⟨T1, X1, e1, st1⟩ := initO X0 hx hZ hown (wd hw 28 rfl) (wd hw 8 rfl) (wd hw 9 rfl) e0 (g := (mkF m 1 (a_RI r0 16) [.ref r0])) rfl (by rw [hml]; rfl) rfl (hb hby k5_0.1.1.2) (by decide) (W := 0) (by show 2 * 0 + _ ≤ _; exact Nat.le_of_eq rfl) (by decide)
  refine Good.back st1 ?_
  obtain ⟨T2, X2, e2, st2⟩ := getS2 X1 hx hZ hown (host := "") (Or.inl (wd hw 29 rfl)) Via.refl e1 S_cs (g := (mkF m 4 (a_RI r0 16) [])) rfl (hb hby k5_0.1.2.1)
  refine Good.back st2 ?_
  show Good p e below _ (T2.setTop (mkF m 7 (a_RI r0 16) [.int cs]))
  refine Good.back (fun _ k => XS.ifNo X2.here hx rfl (hb hby k5_0.1.2.2) rfl ((if0 _ _).trans (feq hcs).1) k) ?_
  refine Good.back (fun _ k => XS.aloadN X2.here hx rfl (hb hby k5_0.2.1.1) rfl rfl k) ?_
  refine Good.back (fun _ k => XS.iloadN X2.here hx rfl (hb hby k5_0.2.1.2) rfl k) ?_
  obtain ⟨T3, h3, k3, X3, e3, E3, A3, B3, st3⟩ := newPE X2 hx hZ (wd hw 31 rfl) e2 (g := (mkF m 12 (a_RI r0 16) [.int 16, .ref r0])) rfl (hb hby k5_0.2.2.1) rfl (by decide) (cap := 16) (by decide) (by decide) (by decide) (by decide) (ad := "[B") (by decide +kernel)
  obtain ⟨b3, g3⟩ : ∃ z, z = h0.size := ⟨_, rfl⟩
  rw [← g3] at A3 B3 st3
  refine Good.back st3 ?_
  have g_b3 : n0 ≤ b3 := Nat.le_trans Z0 (Nat.le_of_eq g3.symm)
  have sz_b3 : h0.size ≤ b3 := Nat.le_trans KR.1 (Nat.le_of_eq g3.symm)
  have Z4 : n0 ≤ h3.size := Nat.le_trans Z0 E3.1
  have K5 : Keep h0 h3 [r0] := KR.ext E3
  have f_6 : Exa Z h3 b3 "[B" := B3
  have f_7 : Arv Z h3 b3 k3 .byte (16 : Int32) [] (.int 0) := (Arv.new A3 (by decide)).pad (pad_rep [] (.int 0) 0)
  have f_8 := Fld.ext E3 Fv
  have f_9 := Exa.ext E3 E0
  obtain ⟨T10, h10, X10, e10, W10, st10⟩ := putF X3 hx hZ hown (host := "") (Or.inl (wd hw 32 rfl)) Via.refl e3 f_8 f_9 (Or.inl (wd hw 33 rfl)) (wd hw 17 rfl) (ty := (.array .byte)) (by decide) rfl rfl (g := (mkF m 14 (a_RI r0 16) [.ref b3, .ref r0])) rfl rfl (hb hby k5_0.2.2.2)
  refine Good.back st10 ?_
  have f_11 : Fld Z h10 r0 "java/lang/AbstractStringBuilder" "value" "[B" (.ref b3) := Fld.same W10 f_8
  have N10 := Fr.snoc X10 N0 g0
  have Z12 : n0 ≤ h10.size := Nat.le_trans Z4 (Keep.of_wr W10).1
  have K13 : Keep h0 h10 [r0] := K5.wr W10 (Or.inl (List.mem_of_getElem? (i := 0) rfl))
  refine Good.back (fun _ k => XS.aloadN X10.here hx rfl (hb hby k5_1.1.1.1) rfl rfl k) ?_
  refine Good.back (fun _ k => XS.iconst X10.here hx rfl (hb hby k5_1.1.1.2) k) ?_
  have f_14 := Fld.ext E3 Fk
  have f_15 : Fld Z h10 r0 "java/lang/AbstractStringBuilder" "coder" "B" (.int 0) := Fld.other W10 f_14 (Or.inr (slot_ne (Or.inl (wd hw 35 rfl)) (Or.inl (wd hw 33 rfl)) (by decide) (t := .byte) (t' := (.array .byte)) (by decide) (by decide)))
  have f_16 : Exa Z h10 r0 "java/lang/StringBuilder" := Exa.wr W10 f_9
  obtain ⟨T17, h17, X17, e17, W17, st17⟩ := putFN X10 hx hZ hown (wd hw 34 rfl) Via.refl e10 f_15 f_16 (Or.inl (wd hw 35 rfl)) (wd hw 17 rfl) (ty := .byte) (v' := (.int 0)) (by decide) rfl (by decide) (g := (mkF m 19 (a_RI r0 16) [.int 0, .ref r0])) rfl rfl (hb hby k5_1.1.2)
  refine Good.back st17 ?_
  have f_18 : Fld Z h17 r0 "java/lang/AbstractStringBuilder" "coder" "B" (.int 0) := Fld.same W17 f_15
  have N17 := Fr.snoc X17 N10 g0
  have Z19 : n0 ≤ h17.size := Nat.le_trans Z12 (Keep.of_wr W17).1
  have K20 : Keep h0 h17 [r0] := K13.wr W17 (Or.inl (List.mem_of_getElem? (i := 0) rfl))
  refine Good.back (fun _ k => XS.goto X17.here hx rfl (pc0 := 22) (pc' := 38) rfl (hb hby k5_1.2.1) (by decide) (by decide) k) ?_
  show Good p e below _ (T17.setTop (mkF m 38 (a_RI r0 16) []))
  obtain ⟨fs21, hr21, hrun21, hended21, hW21, hsame21⟩ := X17.leave (v := none) (fun _ => rfl)
  refine Good.done (X17.returnOut hx Bd.returns (hb hby k5_1.2.2) hr21) hrun21 hended21 ⟨_, _, rfl, ?_, ⟨_, rfl⟩, hW21, hsame21.mono (by decide) (by decide)⟩
  show Q5 Z r0 cs h0 n0 _ T17.heap _
  rw [e17]
  have f_22 : Exa Z h10 b3 "[B" := Exa.wr W10 f_6
  have f_23 : Exa Z h17 b3 "[B" := Exa.wr W17 f_22
  have ne_r0_b3_25 : r0 ≠ b3 := Nat.ne_of_lt (Nat.lt_of_lt_of_le Fc.lt (Nat.le_of_eq g3.symm))
  have f_24 : Arv Z h10 b3 k3 .byte (16 : Int32) [] (.int 0) := Arv.other f_7 W10 (Ne.symm ne_r0_b3_25)
  have f_26 : Arv Z h17 b3 k3 .byte (16 : Int32) [] (.int 0) := Arv.other f_24 W17 (Ne.symm ne_r0_b3_25)
  have f_27 : Fld Z h17 r0 "java/lang/AbstractStringBuilder" "value" "[B" (.ref b3) := Fld.other W17 f_11 (Or.inr (slot_ne (Or.inl (wd hw 33 rfl)) (Or.inl (wd hw 35 rfl)) (by decide) (t := (.array .byte)) (t' := .byte) (by decide) (by decide)))
  have f_28 := Fld.ext E3 Fc
  have f_29 : Fld Z h10 r0 "java/lang/AbstractStringBuilder" "count" "I" (.int 0) := Fld.other W10 f_28 (Or.inr (slot_ne (Or.inl (wd hw 66 rfl)) (Or.inl (wd hw 33 rfl)) (by decide) (t := .int) (t' := (.array .byte)) (by decide) (by decide)))
  have f_30 : Fld Z h17 r0 "java/lang/AbstractStringBuilder" "count" "I" (.int 0) := Fld.other W17 f_29 (Or.inr (slot_ne (Or.inl (wd hw 66 rfl)) (Or.inl (wd hw 35 rfl)) (by decide) (t := .int) (t' := .byte) (by decide) (by decide)))
  exact ⟨b3, k3, rfl, N17, K20, sz_b3, f_23, f_26, f_27, f_18, f_30⟩
abbrev B4 := jdk_67_method_1_code
theorem k4_0 : (own_A B4 0 (.aload_n 0) 1 ∧ own_A B4 1 (.bipush 16) 2) ∧ own_A B4 3 (.invokespecial 1) 3 ∧ own_A B4 6 .return_ 1 := by decide +kernel
theorem own_ef_4 (m : MethodId) (x0 : Addr) : entryFrame m #[(.ref x0)] 1 = mkF m 0 #[.val (.ref x0)] [] := by first | (simp [entryFrame, mkF, argsToLocals, Value.category]; done) | rfl
def Q4 (Z : State) (r0 : Addr) (cs : Int32) (h0 : Heap) (n0 : Nat) (v : Option Value) (h : Heap) (L : List Loc) : Prop := ∃ (a2 : Addr) (k2 : ClassId), v = none ∧ Fr n0 L ∧ Keep h0 h [r0] ∧ h0.size ≤ a2 ∧ Exa Z h a2 "[B" ∧ Arv Z h a2 k2 .byte (16 : Int32) (own_v []) (.int 0) ∧ Fld Z h r0 "java/lang/AbstractStringBuilder" "value" "[B" (.ref a2) ∧ Fld Z h r0 "java/lang/AbstractStringBuilder" "coder" "B" (.int 0) ∧ Fld Z h r0 "java/lang/AbstractStringBuilder" "count" "I" (.int 0)
set_option maxRecDepth 65536 in
set_option maxHeartbeats 40000000 in
theorem rm4 (l : Launch) (Z : State) (a0 : Array Value) (hw : ∀ d ∈ tables_1, d.before a0 Z = true) (ws : List Jvm.Cond) (r0 : Addr) (cs : Int32) (h0 : Heap) (n0 : Nat) (Z0 : n0 ≤ h0.size) (S_cs : Sta Z h0 "java/lang/String" "COMPACT_STRINGS" "Z" (.int cs)) (hcs : ¬ (cs = (0 : Int32))) (E0 : Exa Z h0 r0 "java/lang/StringBuilder") (g0 : n0 ≤ r0) (Fv : Fld Z h0 r0 "java/lang/AbstractStringBuilder" "value" "[B" .null) (Fk : Fld Z h0 r0 "java/lang/AbstractStringBuilder" "coder" "B" (.int 0)) (Fc : Fld Z h0 r0 "java/lang/AbstractStringBuilder" "count" "I" (.int 0)) :
    MetFree l y_26 (head1 (Jvm.Cond.code y_26 jdk_67_method_1_code 1 none :: ws) R_14) (fun a U => a = #[(.ref r0)] ∧ Z.Warmed39 U.vm ∧ U.heap = h0) (fun _ _ _ _ _ => True) (fun _ U o U' => ∃ v L, o = .returned v ∧ Q4 Z r0 cs h0 n0 v U'.heap L ∧ FrameEnd U o U' L R_14.cells R_14.slots) := by
  refine MetFree.of_bodySF (plainFor_of_name own_pn4) hisR ?_
  intro p e s m args below meth c s₁ Bd hml0 hP hK
  obtain ⟨rfl, hZ, hh⟩ := hP
  have hx := Bd.exec
  have hby := Bd.bytes
  have hml : c.maxLocals = 1 := hml0
  have hown : s.vm.findClass "java/lang/StringBuilder" = some m.cls := findClass_of_methodNamed Bd.named
  have hnm := (name_of_methodNamed Bd.named Bd.method).1
  have X0 : Stand p l e R_14 s m #[(.ref r0)] below meth c s₁ [] 0 0 := Stand.of_body Bd
  have e0 : s₁.heap = h0 := by rw [← hh, Bd.state]; rfl
  have N0 := Fr.nil n0
  have KR : Keep h0 h0 [r0] := Keep.refl h0 _
  show Good p e below (fun o U' => ∃ v L, o = .returned v ∧ Q4 Z r0 cs h0 n0 v U'.heap L ∧ FrameEnd s o U' L R_14.cells R_14.slots) _
  refine Good.back (S' := s₁.setTop (mkF m 0 #[.val (.ref r0)] [])) (fun t k => castTop (own_ef_4 m r0) k) ?_
  show Good p e below _ (s₁.setTop (mkF m 0 (a_R r0) []))
  refine Good.back (fun _ k => XS.aloadN X0.here hx rfl (hb hby k4_0.1.1) rfl rfl k) ?_
  refine Good.back (fun _ k => XS.bipush X0.here hx rfl (hb hby k4_0.1.2) k) ?_
  obtain ⟨_, _, ⟨T1, L1, k1, n1⟩, -, X1, ⟨Lc1, hQ1, l1, y1, z1⟩, st1⟩ := X0.specialBack hx (y := y_25) rfl hown (mvT hZ (wd hw 22 rfl)) (mvT hZ (wd hw 23 rfl)) (mvT hZ (wd hw 27 rfl)) (by decide) (backOf (W := 0) (rm5 l Z a0 hw [] r0 cs h0 n0 Z0 S_cs (hcs) E0 g0 Fv Fk Fc) hZ (wd hw 27 rfl) (wd hw 26 rfl) (by decide) (by decide)) (g := (mkF m 3 (a_R r0) [.int 16, .ref r0])) rfl (by rw [hml]; rfl) (Steps.refl _) (a := r0) (argsL := [(.int 16)]) (rest := []) (lenOf own_pd8 rfl) rfl (by show 2 * 0 + _ ≤ _; exact Nat.le_of_eq rfl) (hb hby k4_0.2.1) (fun _ _ => ⟨rfl, e0, (by decide : 0 + 1 ≤ _), (by decide : 0 + 16 ≤ _)⟩)
  dsimp only [Pt.U, Pt.locs, Pt.cells, Pt.slots] at X1 l1 y1 z1 st1 hQ1
  subst l1 y1 z1
  obtain ⟨a2_1, k2_1, rfl, N1q, Kq1, o1_0, o1_1, o1_2, o1_3, o1_4, o1_5⟩ := hQ1
  have N1 := Fr.app N0 N1q
  have Z2 : n0 ≤ T1.heap.size := Nat.le_trans Z0 Kq1.1
  have K3 : Keep h0 T1.heap [r0] := KR.trans Kq1 (allS (Or.inl (List.mem_of_getElem? (i := 0) rfl)) all0)
  have g_a2_1 : n0 ≤ a2_1 := Nat.le_trans Z0 o1_0
  have sz_a2_1 : h0.size ≤ a2_1 := Nat.le_trans KR.1 o1_0
  refine Good.back (fun _ k => st1.trans k) ?_
  show Good p e below _ (T1.setTop (mkF m 6 (a_R r0) []))
  obtain ⟨fs4, hr4, hrun4, hended4, hW4, hsame4⟩ := X1.leave (v := none) (fun _ => rfl)
  refine Good.done (X1.returnOut hx Bd.returns (hb hby k4_0.2.2) hr4) hrun4 hended4 ⟨_, _, rfl, ?_, ⟨_, rfl⟩, hW4, hsame4.mono (by decide) (by decide)⟩
  show Q4 Z r0 cs h0 n0 _ T1.heap _
  exact ⟨a2_1, k2_1, rfl, N1, K3, sz_a2_1, o1_1, o1_2, o1_3, o1_4, o1_5⟩
abbrev B37 := jdk_68_method_64_code
theorem k37_0 : (own_A B37 0 (.aload_n 0) 1 ∧ own_A B37 1 (.getfield 15) 3) ∧ own_A B37 4 .areturn 1 := by decide +kernel
theorem own_ef_37 (m : MethodId) (x0 : Addr) : entryFrame m #[(.ref x0)] 1 = mkF m 0 #[.val (.ref x0)] [] := by first | (simp [entryFrame, mkF, argsToLocals, Value.category]; done) | rfl
def Q37 (Z : State) (r0 : Addr) (ar : Addr) (h0 : Heap) (n0 : Nat) (v : Option Value) (h : Heap) (L : List Loc) : Prop := v = some (.ref ar) ∧ Fr n0 L ∧ h = h0
set_option maxRecDepth 65536 in
set_option maxHeartbeats 40000000 in
theorem rm37 (l : Launch) (Z : State) (a0 : Array Value) (hw : ∀ d ∈ tables_1, d.before a0 Z = true) (ws : List Jvm.Cond) (r0 : Addr) (ar : Addr) (h0 : Heap) (n0 : Nat) (Z0 : n0 ≤ h0.size) (Fv : Fld Z h0 r0 "java/lang/AbstractStringBuilder" "value" "[B" (.ref ar)) :
    MetFree l y_27 (head1 (Jvm.Cond.code y_27 jdk_68_method_64_code 1 (some (.array .byte)) :: ws) R_0) (fun a U => a = #[(.ref r0)] ∧ Z.Warmed39 U.vm ∧ U.heap = h0) (fun _ _ _ _ _ => True) (fun _ U o U' => ∃ v L, o = .returned v ∧ Q37 Z r0 ar h0 n0 v U'.heap L ∧ FrameEnd U o U' L R_0.cells R_0.slots) := by
  refine MetFree.of_bodySF (plainFor_of_name own_pn1) hisR ?_
  intro p e s m args below meth c s₁ Bd hml0 hP hK
  obtain ⟨rfl, hZ, hh⟩ := hP
  have hx := Bd.exec
  have hby := Bd.bytes
  have hml : c.maxLocals = 1 := hml0
  have hown : s.vm.findClass "java/lang/AbstractStringBuilder" = some m.cls := findClass_of_methodNamed Bd.named
  have hnm := (name_of_methodNamed Bd.named Bd.method).1
  have X0 : Stand p l e R_0 s m #[(.ref r0)] below meth c s₁ [] 0 0 := Stand.of_body Bd
  have e0 : s₁.heap = h0 := by rw [← hh, Bd.state]; rfl
  have N0 := Fr.nil n0
  show Good p e below (fun o U' => ∃ v L, o = .returned v ∧ Q37 Z r0 ar h0 n0 v U'.heap L ∧ FrameEnd s o U' L R_0.cells R_0.slots) _
  refine Good.back (S' := s₁.setTop (mkF m 0 #[.val (.ref r0)] [])) (fun t k => castTop (own_ef_37 m r0) k) ?_
  show Good p e below _ (s₁.setTop (mkF m 0 (a_R r0) []))
  refine Good.back (fun _ k => XS.aloadN X0.here hx rfl (hb hby k37_0.1.1) rfl rfl k) ?_
  obtain ⟨T1, X1, e1, st1⟩ := getF X0 hx hZ hown (host := "") (Or.inl (wd hw 32 rfl)) Via.refl e0 Fv (g := (mkF m 1 (a_R r0) [.ref r0])) rfl rfl (hb hby k37_0.1.2)
  refine Good.back st1 ?_
  show Good p e below _ (T1.setTop (mkF m 4 (a_R r0) [.ref ar]))
  obtain ⟨fs2, hr2, hrun2, hended2, hW2, hsame2⟩ := X1.leave (v := some (.ref ar)) (fun h => by rw [Bd.returns] at h; cases h)
  refine Good.done (retOut X1 hx Bd.returns rfl (Or.inr (Or.inr (Or.inr (Or.inr ⟨rfl, rfl, rfl⟩)))) (hb hby k37_0.2) hr2) hrun2 hended2 ⟨_, _, rfl, ?_, ⟨_, rfl⟩, hW2, hsame2.mono (by decide) (by decide)⟩
  show Q37 Z r0 ar h0 n0 _ T1.heap _
  rw [e1]
  exact ⟨rfl, N0, rfl⟩
abbrev B39 := jdk_68_method_6_code
theorem k39_0 : (own_A B39 0 (.aload_n 0) 1 ∧ own_A B39 1 (.getfield 79) 3) ∧ own_A B39 4 .ireturn 1 := by decide +kernel
theorem own_ef_39 (m : MethodId) (x0 : Addr) : entryFrame m #[(.ref x0)] 1 = mkF m 0 #[.val (.ref x0)] [] := by first | (simp [entryFrame, mkF, argsToLocals, Value.category]; done) | rfl
def Q39 (Z : State) (r0 : Addr) (ct : Int32) (h0 : Heap) (n0 : Nat) (v : Option Value) (h : Heap) (L : List Loc) : Prop := v = some (.int ct) ∧ Fr n0 L ∧ h = h0
set_option maxRecDepth 65536 in
set_option maxHeartbeats 40000000 in
theorem rm39 (l : Launch) (Z : State) (a0 : Array Value) (hw : ∀ d ∈ tables_1, d.before a0 Z = true) (ws : List Jvm.Cond) (r0 : Addr) (ct : Int32) (h0 : Heap) (n0 : Nat) (Z0 : n0 ≤ h0.size) (E0 : Exa Z h0 r0 "java/lang/StringBuilder") (Fc : Fld Z h0 r0 "java/lang/AbstractStringBuilder" "count" "I" (.int ct)) :
    MetFree l y_28 (head1 (Jvm.Cond.code y_28 jdk_68_method_6_code 1 (some .int) :: ws) R_0) (fun a U => a = #[(.ref r0)] ∧ Z.Warmed39 U.vm ∧ U.heap = h0) (fun _ _ _ _ _ => True) (fun _ U o U' => ∃ v L, o = .returned v ∧ Q39 Z r0 ct h0 n0 v U'.heap L ∧ FrameEnd U o U' L R_0.cells R_0.slots) := by
  refine MetFree.of_bodySF (plainFor_of_name own_pn1) hisR ?_
  intro p e s m args below meth c s₁ Bd hml0 hP hK
  obtain ⟨rfl, hZ, hh⟩ := hP
  have hx := Bd.exec
  have hby := Bd.bytes
  have hml : c.maxLocals = 1 := hml0
  have hown : s.vm.findClass "java/lang/AbstractStringBuilder" = some m.cls := findClass_of_methodNamed Bd.named
  have hnm := (name_of_methodNamed Bd.named Bd.method).1
  have X0 : Stand p l e R_0 s m #[(.ref r0)] below meth c s₁ [] 0 0 := Stand.of_body Bd
  have e0 : s₁.heap = h0 := by rw [← hh, Bd.state]; rfl
  have N0 := Fr.nil n0
  show Good p e below (fun o U' => ∃ v L, o = .returned v ∧ Q39 Z r0 ct h0 n0 v U'.heap L ∧ FrameEnd s o U' L R_0.cells R_0.slots) _
  refine Good.back (S' := s₁.setTop (mkF m 0 #[.val (.ref r0)] [])) (fun t k => castTop (own_ef_39 m r0) k) ?_
  show Good p e below _ (s₁.setTop (mkF m 0 (a_R r0) []))
  refine Good.back (fun _ k => XS.aloadN X0.here hx rfl (hb hby k39_0.1.1) rfl rfl k) ?_
  obtain ⟨T1, X1, e1, st1⟩ := getF X0 hx hZ hown (host := "") (Or.inl (wd hw 65 rfl)) Via.refl e0 Fc (g := (mkF m 1 (a_R r0) [.ref r0])) rfl rfl (hb hby k39_0.1.2)
  refine Good.back st1 ?_
  show Good p e below _ (T1.setTop (mkF m 4 (a_R r0) [.int ct]))
  obtain ⟨fs2, hr2, hrun2, hended2, hW2, hsame2⟩ := X1.leave (v := some (.int ct)) (fun h => by rw [Bd.returns] at h; cases h)
  refine Good.done (retI X1 hx Bd.returns (hb hby k39_0.2) hr2) hrun2 hended2 ⟨_, _, rfl, ?_, ⟨_, rfl⟩, hW2, hsame2.mono (by decide) (by decide)⟩
  show Q39 Z r0 ct h0 n0 _ T1.heap _
  rw [e1]
  exact ⟨rfl, N0, rfl⟩
abbrev B38 := jdk_67_method_93_code
theorem k38_0 : (own_A B38 0 (.aload_n 0) 1 ∧ own_A B38 1 (.invokespecial 343) 3) ∧ own_A B38 4 .ireturn 1 := by decide +kernel
theorem own_ef_38 (m : MethodId) (x0 : Addr) : entryFrame m #[(.ref x0)] 1 = mkF m 0 #[.val (.ref x0)] [] := by first | (simp [entryFrame, mkF, argsToLocals, Value.category]; done) | rfl
def Q38 (Z : State) (r0 : Addr) (ct : Int32) (h0 : Heap) (n0 : Nat) (v : Option Value) (h : Heap) (L : List Loc) : Prop := v = some (.int ct) ∧ Fr n0 L ∧ h = h0
set_option maxRecDepth 65536 in
set_option maxHeartbeats 40000000 in
theorem rm38 (l : Launch) (Z : State) (a0 : Array Value) (hw : ∀ d ∈ tables_1, d.before a0 Z = true) (ws : List Jvm.Cond) (r0 : Addr) (ct : Int32) (h0 : Heap) (n0 : Nat) (Z0 : n0 ≤ h0.size) (E0 : Exa Z h0 r0 "java/lang/StringBuilder") (Fc : Fld Z h0 r0 "java/lang/AbstractStringBuilder" "count" "I" (.int ct)) :
    MetFree l y_29 (head1 (Jvm.Cond.code y_29 jdk_67_method_93_code 1 (some .int) :: ws) R_15) (fun a U => a = #[(.ref r0)] ∧ Z.Warmed39 U.vm ∧ U.heap = h0) (fun _ _ _ _ _ => True) (fun _ U o U' => ∃ v L, o = .returned v ∧ Q38 Z r0 ct h0 n0 v U'.heap L ∧ FrameEnd U o U' L R_15.cells R_15.slots) := by
  refine MetFree.of_bodySF (plainFor_of_name own_pn4) hisR ?_
  intro p e s m args below meth c s₁ Bd hml0 hP hK
  obtain ⟨rfl, hZ, hh⟩ := hP
  have hx := Bd.exec
  have hby := Bd.bytes
  have hml : c.maxLocals = 1 := hml0
  have hown : s.vm.findClass "java/lang/StringBuilder" = some m.cls := findClass_of_methodNamed Bd.named
  have hnm := (name_of_methodNamed Bd.named Bd.method).1
  have X0 : Stand p l e R_15 s m #[(.ref r0)] below meth c s₁ [] 0 0 := Stand.of_body Bd
  have e0 : s₁.heap = h0 := by rw [← hh, Bd.state]; rfl
  have N0 := Fr.nil n0
  show Good p e below (fun o U' => ∃ v L, o = .returned v ∧ Q38 Z r0 ct h0 n0 v U'.heap L ∧ FrameEnd s o U' L R_15.cells R_15.slots) _
  refine Good.back (S' := s₁.setTop (mkF m 0 #[.val (.ref r0)] [])) (fun t k => castTop (own_ef_38 m r0) k) ?_
  show Good p e below _ (s₁.setTop (mkF m 0 (a_R r0) []))
  refine Good.back (fun _ k => XS.aloadN X0.here hx rfl (hb hby k38_0.1.1) rfl rfl k) ?_
  obtain ⟨_, _, ⟨T1, L1, k1, n1⟩, -, X1, ⟨Lc1, hQ1, l1, y1, z1⟩, st1⟩ := superBack X0 hx hZ (y := y_28) hown (wd hw 222 rfl) (own_sameM (z := y_5) (wd hw 217 rfl) (wd hw 70 rfl) rfl (by decide)) (wd hw 218 rfl) (wd hw 49 rfl) (by decide) (backOf (W := 0) (rm39 l Z a0 hw [] r0 ct h0 n0 Z0 E0 Fc) hZ (wd hw 223 rfl) (wd hw 26 rfl) (by decide) (by decide)) e0 (Ins.self E0) (g := (mkF m 1 (a_R r0) [.ref r0])) rfl (by rw [hml]; rfl) (wd hw 223 rfl) (argsL := []) (rest := []) (lenOf own_pd7 rfl) rfl (by show 2 * 0 + _ ≤ _; exact Nat.le_of_eq rfl) (hb hby k38_0.1.2) (fun _ _ => ⟨rfl, e0, (by decide : 0 + 0 ≤ _), (by decide : 0 + 0 ≤ _)⟩)
  dsimp only [Pt.U, Pt.locs, Pt.cells, Pt.slots] at X1 l1 y1 z1 st1 hQ1
  subst l1 y1 z1
  obtain ⟨rfl, N1q, eh1⟩ := hQ1
  have N1 := Fr.app N0 N1q
  refine Good.back (fun _ k => st1.trans k) ?_
  show Good p e below _ (T1.setTop (mkF m 4 (a_R r0) [.int ct]))
  obtain ⟨fs2, hr2, hrun2, hended2, hW2, hsame2⟩ := X1.leave (v := some (.int ct)) (fun h => by rw [Bd.returns] at h; cases h)
  refine Good.done (retI X1 hx Bd.returns (hb hby k38_0.2) hr2) hrun2 hended2 ⟨_, _, rfl, ?_, ⟨_, rfl⟩, hW2, hsame2.mono (by decide) (by decide)⟩
  show Q38 Z r0 ct h0 n0 _ T1.heap _
  rw [eh1]
  exact ⟨rfl, N1, rfl⟩
abbrev B42 := jdk_65_method_131_code
theorem k42_0 : (own_A B42 0 (.iload_n 1) 1 ∧ own_A B42 1 (.iload_n 0) 1) ∧ own_A B42 2 (.if_icmp .ge 35) 3 ∧ own_A B42 37 .return_ 1 := by decide +kernel
theorem own_ef_42 (m : MethodId) (x0 : Int32) (x1 : Int32) : entryFrame m #[(.int x0), (.int x1)] 2 = mkF m 0 #[.val (.int x0), .val (.int x1)] [] := by first | (simp [entryFrame, mkF, argsToLocals, Value.category]; done) | rfl
def Q42 (Z : State) (p0 : Int32) (p1 : Int32) (h0 : Heap) (n0 : Nat) (v : Option Value) (h : Heap) (L : List Loc) : Prop := v = none ∧ Fr n0 L ∧ h = h0
set_option maxRecDepth 65536 in
set_option maxHeartbeats 40000000 in
theorem rm42 (l : Launch) (Z : State) (a0 : Array Value) (hw : ∀ d ∈ tables_1, d.before a0 Z = true) (ws : List Jvm.Cond) (p0 : Int32) (p1 : Int32) (h0 : Heap) (n0 : Nat) (Z0 : n0 ≤ h0.size) (hle : ¬ (p1 < p0)) :
    MetFree l y_30 (head1 (Jvm.Cond.code y_30 jdk_65_method_131_code 2 none :: ws) R_0) (fun a U => a = #[(.int p0), (.int p1)] ∧ Z.Warmed39 U.vm ∧ U.heap = h0) (fun _ _ _ _ _ => True) (fun _ U o U' => ∃ v L, o = .returned v ∧ Q42 Z p0 p1 h0 n0 v U'.heap L ∧ FrameEnd U o U' L R_0.cells R_0.slots) := by
  refine MetFree.of_bodySF (plainFor_of_name own_pn2) hisR ?_
  intro p e s m args below meth c s₁ Bd hml0 hP hK
  obtain ⟨rfl, hZ, hh⟩ := hP
  have hx := Bd.exec
  have hby := Bd.bytes
  have hml : c.maxLocals = 2 := hml0
  have hown : s.vm.findClass "java/util/Arrays" = some m.cls := findClass_of_methodNamed Bd.named
  have hnm := (name_of_methodNamed Bd.named Bd.method).1
  have X0 : Stand p l e R_0 s m #[(.int p0), (.int p1)] below meth c s₁ [] 0 0 := Stand.of_body Bd
  have e0 : s₁.heap = h0 := by rw [← hh, Bd.state]; rfl
  have N0 := Fr.nil n0
  show Good p e below (fun o U' => ∃ v L, o = .returned v ∧ Q42 Z p0 p1 h0 n0 v U'.heap L ∧ FrameEnd s o U' L R_0.cells R_0.slots) _
  refine Good.back (S' := s₁.setTop (mkF m 0 #[.val (.int p0), .val (.int p1)] [])) (fun t k => castTop (own_ef_42 m p0 p1) k) ?_
  show Good p e below _ (s₁.setTop (mkF m 0 (a_II p0 p1) []))
  refine Good.back (fun _ k => XS.iloadN X0.here hx rfl (hb hby k42_0.1.1) rfl k) ?_
  refine Good.back (fun _ k => XS.iloadN X0.here hx rfl (hb hby k42_0.1.2) rfl k) ?_
  show Good p e below _ (s₁.setTop (mkF m 2 (a_II p0 p1) [.int p0, .int p1]))
  refine Good.back (fun _ k => XS.icmpYes X0.here hx rfl (pc0 := 2) (pc' := 37) rfl (hb hby k42_0.2.1) rfl (flt hle).2.1 (by decide) (by decide) k) ?_
  show Good p e below _ (s₁.setTop (mkF m 37 (a_II p0 p1) []))
  obtain ⟨fs1, hr1, hrun1, hended1, hW1, hsame1⟩ := X0.leave (v := none) (fun _ => rfl)
  refine Good.done (X0.returnOut hx Bd.returns (hb hby k42_0.2.2) hr1) hrun1 hended1 ⟨_, _, rfl, ?_, ⟨_, rfl⟩, hW1, hsame1.mono (by decide) (by decide)⟩
  show Q42 Z p0 p1 h0 n0 _ s₁.heap _
  rw [e0]
  exact ⟨rfl, N0, rfl⟩
theorem own_pd19 : parseMethodDescriptor "(II)V" = some ⟨[.int, .int], none⟩ := by decide +kernel
abbrev B41 := jdk_65_method_133_code
theorem k41_0 : ((own_A B41 0 (.iload_n 1) 1 ∧ own_A B41 1 (.iload_n 2) 1) ∧ own_A B41 2 (.invokestatic 343) 3 ∧ own_A B41 5 (.iload_n 2) 1) ∧ (own_A B41 6 (.iload_n 1) 1 ∧ own_A B41 7 .isub 1) ∧ own_A B41 8 (.istore_n 3) 1 ∧ own_A B41 9 (.iload_n 3) 1 := by decide +kernel
theorem k41_1 : ((own_A B41 10 (.newarray .byte) 2 ∧ own_A B41 12 (.astore 4) 2) ∧ own_A B41 14 (.aload_n 0) 1 ∧ own_A B41 15 (.iload_n 1) 1) ∧ (own_A B41 16 (.aload 4) 2 ∧ own_A B41 18 (.iconst 0) 1) ∧ own_A B41 19 (.aload_n 0) 1 ∧ own_A B41 20 .arraylength 1 := by decide +kernel
theorem k41_2 : ((own_A B41 21 (.iload_n 1) 1 ∧ own_A B41 22 .isub 1) ∧ own_A B41 23 (.iload_n 3) 1 ∧ own_A B41 24 (.invokestatic 304) 3) ∧ (own_A B41 27 (.invokestatic 150) 3 ∧ own_A B41 30 (.aload 4) 2) ∧ own_A B41 32 .areturn 1 := by decide +kernel
theorem own_ef_41 (m : MethodId) (x0 : Addr) (x1 : Int32) (x2 : Int32) : entryFrame m #[(.ref x0), (.int x1), (.int x2)] 5 = mkF m 0 #[.val (.ref x0), .val (.int x1), .val (.int x2), .unset, .unset] [] := by first | (simp [entryFrame, mkF, argsToLocals, Value.category]; done) | rfl
def Q41 (Z : State) (r0 : Addr) (p2 : Int32) (kk : ClassId) (zc : Int32) (bs : List Int32) (h0 : Heap) (n0 : Nat) (v : Option Value) (h : Heap) (L : List Loc) : Prop := ∃ (a2 : Addr) (k2 : ClassId) (z2 : Int32), v = some (.ref a2) ∧ Fr n0 L ∧ Keep h0 h [] ∧ h0.size ≤ a2 ∧ Exa Z h a2 "[B" ∧ Arv Z h a2 k2 .byte z2 (own_v bs) (.int 0) ∧ (z2.toInt = (bs.length : Int))
set_option maxRecDepth 65536 in
set_option maxHeartbeats 40000000 in
theorem rm41 (l : Launch) (Z : State) (a0 : Array Value) (hw : ∀ d ∈ tables_1, d.before a0 Z = true) (ws : List Jvm.Cond) (r0 : Addr) (p2 : Int32) (kk : ClassId) (zc : Int32) (bs : List Int32) (h0 : Heap) (n0 : Nat) (Z0 : n0 ≤ h0.size) (Va : Arv Z h0 r0 kk .byte zc (own_v bs) (.int 0)) (hp : p2.toInt = (bs.length : Int)) (hz : (bs.length : Int) ≤ zc.toInt ∧ zc.toInt ≤ 200) :
    MetFree l y_31 (head1 (Jvm.Cond.code y_31 jdk_65_method_133_code 5 (some (.array .byte)) :: ws) R_3) (fun a U => a = #[(.ref r0), (.int 0), (.int p2)] ∧ Z.Warmed39 U.vm ∧ U.heap = h0) (fun _ _ _ _ _ => True) (fun _ U o U' => ∃ v L, o = .returned v ∧ Q41 Z r0 p2 kk zc bs h0 n0 v U'.heap L ∧ FrameEnd U o U' L R_3.cells R_3.slots) := by
  refine MetFree.of_bodySF (plainFor_of_name own_pn2) hisR ?_
  intro p e s m args below meth c s₁ Bd hml0 hP hK
  obtain ⟨rfl, hZ, hh⟩ := hP
  have hx := Bd.exec
  have hby := Bd.bytes
  have hml : c.maxLocals = 5 := hml0
  have hown : s.vm.findClass "java/util/Arrays" = some m.cls := findClass_of_methodNamed Bd.named
  have hnm := (name_of_methodNamed Bd.named Bd.method).1
  have X0 : Stand p l e R_3 s m #[(.ref r0), (.int 0), (.int p2)] below meth c s₁ [] 0 0 := Stand.of_body Bd
  have e0 : s₁.heap = h0 := by rw [← hh, Bd.state]; rfl
  have N0 := Fr.nil n0
  have KR : Keep h0 h0 [] := Keep.refl h0 _
  show Good p e below (fun o U' => ∃ v L, o = .returned v ∧ Q41 Z r0 p2 kk zc bs h0 n0 v U'.heap L ∧ FrameEnd s o U' L R_3.cells R_3.slots) _
  refine Good.back (S' := s₁.setTop (mkF m 0 #[.val (.ref r0), .val (.int 0), .val (.int p2), .unset, .unset] [])) (fun t k => castTop (own_ef_41 m r0 (0 : Int32) p2) k) ?_
  have hn1 := own_nat (z := zc) (by omega)
  have hn2 := own_nat (z := p2) (by omega)
  have e0' : (0 : Int32).toNatClampNeg = 0 := rfl
  show Good p e below _ (s₁.setTop (mkF m 0 (a_RIIuu r0 0 p2) []))
  refine Good.back (fun _ k => XS.iloadN X0.here hx rfl (hb hby k41_0.1.1.1) rfl k) ?_
  refine Good.back (fun _ k => XS.iloadN X0.here hx rfl (hb hby k41_0.1.1.2) rfl k) ?_
  obtain ⟨_, _, ⟨T1, L1, k1, n1⟩, -, X1, ⟨Lc1, hQ1, l1, y1, z1⟩, st1⟩ := Jvm.LawKit.callS X0 hx (y := y_30) hown (mvT hZ (wd hw 231 rfl)) (mvT hZ (wd hw 232 rfl)) (mvT hZ (wd hw 137 rfl)) (mvT hZ (wd hw 233 rfl)) (by decide) (backOf (W := 0) (rm42 l Z a0 hw [] (0 : Int32) p2  h0 n0 Z0 (own_lt (by rw [show (0 : Int32).toInt = 0 from rfl]; omega))) hZ (wd hw 233 rfl) (wd hw 137 rfl) (by decide) (by decide)) (g := (mkF m 2 (a_RIIuu r0 0 p2) [.int p2, .int 0])) rfl (by rw [hml]; rfl) (argsL := [(.int 0), (.int p2)]) (rest := []) (lenOf own_pd19 rfl) rfl (by show 2 * 0 + _ ≤ _; exact Nat.le_of_eq rfl) (hb hby k41_0.1.2.1) (fun _ _ => ⟨rfl, e0, (by decide : 0 + 0 ≤ _), (by decide : 0 + 0 ≤ _)⟩)
  dsimp only [Pt.U, Pt.locs, Pt.cells, Pt.slots] at X1 l1 y1 z1 st1 hQ1
  subst l1 y1 z1
  obtain ⟨rfl, N1q, eh1⟩ := hQ1
  have N1 := Fr.app N0 N1q
  refine Good.back st1 ?_
  refine Good.back (fun _ k => XS.iloadN X1.here hx rfl (hb hby k41_0.1.2.2) rfl k) ?_
  refine Good.back (fun _ k => XS.iloadN X1.here hx rfl (hb hby k41_0.2.1.1) rfl k) ?_
  refine Good.back (fun _ k => XS.isub X1.here hx rfl (hb hby k41_0.2.1.2) rfl k) ?_
  show Good p e below _ (T1.setTop (mkF m 8 (a_RIIuu r0 0 p2) [.int (p2 - (0 : Int32))]))
  rw [show ((p2 - (0 : Int32)) : Int32) = p2 from own_sub0 _]
  show Good p e below _ (T1.setTop (mkF m 8 (a_RIIuu r0 0 p2) [.int p2]))
  refine Good.back (fun _ k => XS.istoreN X1.here hx rfl (hb hby k41_0.2.2.1) rfl (l' := (a_RI3u r0 0 p2 p2)) rfl k) ?_
  refine Good.back (fun _ k => XS.iloadN X1.here hx rfl (hb hby k41_0.2.2.2) rfl k) ?_
  obtain ⟨T2, h2, k2, X2, e2, E2, A2, B2, st2⟩ := newPE X1 hx hZ (wd hw 31 rfl) eh1 (g := (mkF m 10 (a_RI3u r0 0 p2 p2) [.int p2])) rfl (hb hby k41_1.1.1.1) rfl (own_lt (by rw [show (0 : Int32).toInt = 0 from rfl]; omega)) (cap := 200) (by omega) (by decide) (by decide) (by decide) (ad := "[B") (by decide +kernel)
  obtain ⟨b2, g2⟩ : ∃ z, z = h0.size := ⟨_, rfl⟩
  rw [← g2] at A2 B2 st2
  refine Good.back st2 ?_
  have g_b2 : n0 ≤ b2 := Nat.le_trans Z0 (Nat.le_of_eq g2.symm)
  have sz_b2 : h0.size ≤ b2 := Nat.le_trans KR.1 (Nat.le_of_eq g2.symm)
  have Z3 : n0 ≤ h2.size := Nat.le_trans Z0 E2.1
  have K4 : Keep h0 h2 [] := KR.ext E2
  have f_5 : Exa Z h2 b2 "[B" := B2
  have f_6 : Arv Z h2 b2 k2 .byte p2 [] (.int 0) := (Arv.new A2 (own_lt (by rw [show (0 : Int32).toInt = 0 from rfl]; omega))).pad (pad_rep [] (.int 0) 0)
  refine Good.back (fun _ k => XS.astore X2.here hx rfl (hb hby k41_1.1.1.2) rfl rfl (l' := (a_RI3R r0 0 p2 p2 b2)) rfl k) ?_
  refine Good.back (fun _ k => XS.aloadN X2.here hx rfl (hb hby k41_1.1.2.1) rfl rfl k) ?_
  refine Good.back (fun _ k => XS.iloadN X2.here hx rfl (hb hby k41_1.1.2.2) rfl k) ?_
  refine Good.back (fun _ k => XS.aload X2.here hx rfl (hb hby k41_1.2.1.1) rfl rfl k) ?_
  refine Good.back (fun _ k => XS.iconst X2.here hx rfl (hb hby k41_1.2.1.2) k) ?_
  show Good p e below _ (T2.setTop (mkF m 19 (a_RI3R r0 0 p2 p2 b2) [.int 0, .ref b2, .int 0, .ref r0]))
  refine Good.back (fun _ k => XS.aloadN X2.here hx rfl (hb hby k41_1.2.2.1) rfl rfl k) ?_
  have f_7 := Arv.ext Va E2
  have fc8 := f_7
  obtain ⟨cl8, Ar8, qk8, S8, N8', H8, G8⟩ := fc8
  refine Good.back (X2.arraylength hx (by rw [e2]; exact Ar8.1) (State.isArrayOf_alike hZ.alike Ar8.2.1) (g := (mkF m 20 (a_RI3R r0 0 p2 p2 b2) [.ref r0, .int 0, .ref b2, .int 0, .ref r0])) rfl rfl (hb hby k41_1.2.2.2)) ?_
  rw [len_of S8 N8']
  refine Good.back (fun _ k => XS.iloadN X2.here hx rfl (hb hby k41_2.1.1.1) rfl k) ?_
  refine Good.back (fun _ k => XS.isub X2.here hx rfl (hb hby k41_2.1.1.2) rfl k) ?_
  show Good p e below _ (T2.setTop (mkF m 23 (a_RI3R r0 0 p2 p2 b2) [.int (zc - (0 : Int32)), .int 0, .ref b2, .int 0, .ref r0]))
  rw [show ((zc - (0 : Int32)) : Int32) = zc from own_sub0 _]
  show Good p e below _ (T2.setTop (mkF m 23 (a_RI3R r0 0 p2 p2 b2) [.int zc, .int 0, .ref b2, .int 0, .ref r0]))
  refine Good.back (fun _ k => XS.iloadN X2.here hx rfl (hb hby k41_2.1.2.1) rfl k) ?_
  obtain ⟨_, _, ⟨T9, L9, k9, n9⟩, -, X9, ⟨Lc9, hQ9, l9, y9, z9⟩, st9⟩ := Jvm.LawKit.callS X2 hx (y := y_1) hown (mvT hZ (wd hw 139 rfl)) (mvT hZ (wd hw 140 rfl)) (mvT hZ (wd hw 131 rfl)) (mvT hZ (wd hw 141 rfl)) (by decide) (backOf (W := 4) (rm23 l Z a0 hw [] zc p2  h2 n0 Z3 ) hZ (wd hw 141 rfl) (wd hw 131 rfl) (by decide) (by decide)) (g := (mkF m 24 (a_RI3R r0 0 p2 p2 b2) [.int p2, .int zc, .int 0, .ref b2, .int 0, .ref r0])) rfl (by rw [hml]; rfl) (argsL := [(.int zc), (.int p2)]) (rest := [(.int 0), (.ref b2), (.int 0), (.ref r0)]) (lenOf own_pd0 rfl) rfl (by show 2 * 0 + _ ≤ _; exact Nat.le_of_eq rfl) (hb hby k41_2.1.2.2) (fun _ _ => ⟨rfl, e2, (by decide : 1 + 0 ≤ _), (by decide : 200 + 0 ≤ _)⟩)
  dsimp only [Pt.U, Pt.locs, Pt.cells, Pt.slots] at X9 l9 y9 z9 st9 hQ9
  subst l9 y9 z9
  obtain ⟨rfl, N9q, eh9⟩ := hQ9
  have N9 := Fr.app N1 N9q
  refine Good.back st9 ?_
  show Good p e below _ (T9.setTop (mkF m 27 (a_RI3R r0 0 p2 p2 b2) [.int (own_min zc p2), .int 0, .ref b2, .int 0, .ref r0]))
  rw [show ((own_min zc p2) : Int32) = p2 from own_minR (by omega)]
  show Good p e below _ (T9.setTop (mkF m 27 (a_RI3R r0 0 p2 p2 b2) [.int p2, .int 0, .ref b2, .int 0, .ref r0]))
  have fp10 : Arv Z h2 b2 k2 .byte p2 (List.replicate p2.toNatClampNeg (Value.int 0)) (.int 0) := f_6.pad (fun i => pad_rep [] (.int 0) p2.toNatClampNeg i)
  obtain ⟨T10, h10, L10, X10, e10, N10, Kq10, A10, st10⟩ := cpA X9 hx hZ hown (wd hw 142 rfl) (wd hw 91 rfl) (wd hw 89 rfl) (wd hw 90 rfl) eh9 f_7 fp10 (us := ((List.range p2.toNatClampNeg).map fun i => (own_v bs).getD (0 + i) (.int 0))) (Or.inl ⟨rfl, rfl⟩) (by decide) (by decide) (own_lt (by rw [show (0 : Int32).toInt = 0 from rfl]; omega)) (by omega) (by omega) rfl (by rw [List.length_replicate]; omega) N9 g_b2 (g := (mkF m 27 (a_RI3R r0 0 p2 p2 b2) [.int p2, .int 0, .ref b2, .int 0, .ref r0])) rfl (by rw [hml]; rfl) rfl (hb hby k41_2.2.1.1) (by decide) (W := 0) (by show 2 * 0 + _ ≤ _; exact Nat.le_of_eq rfl) (by decide)
  refine Good.back st10 ?_
  have Z11 : n0 ≤ h10.size := Nat.le_trans Z3 Kq10.1
  have K12 : Keep h0 h10 [] := K4.trans Kq10 (allS (Or.inr sz_b2) all0)
  have f_13 : Arv Z h10 b2 k2 .byte p2 (own_v bs) (.int 0) := A10.pad (fun i => own_copy bs p2.toNatClampNeg (by omega) i)
  refine Good.back (fun _ k => XS.aload X10.here hx rfl (hb hby k41_2.2.1.2) rfl rfl k) ?_
  show Good p e below _ (T10.setTop (mkF m 32 (a_RI3R r0 0 p2 p2 b2) [.ref b2]))
  obtain ⟨fs14, hr14, hrun14, hended14, hW14, hsame14⟩ := X10.leave (v := some (.ref b2)) (fun h => by rw [Bd.returns] at h; cases h)
  refine Good.done (retOut X10 hx Bd.returns rfl (Or.inr (Or.inr (Or.inr (Or.inr ⟨rfl, rfl, rfl⟩)))) (hb hby k41_2.2.2) hr14) hrun14 hended14 ⟨_, _, rfl, ?_, ⟨_, rfl⟩, hW14, hsame14.mono (by decide) (by decide)⟩
  show Q41 Z r0 p2 kk zc bs h0 n0 _ T10.heap _
  rw [e10]
  have f_15 := Exa.keep f_5 Kq10
  exact ⟨b2, k2, p2, rfl, N10, K12, sz_b2, f_15, f_13, (hp)⟩
theorem own_pd20 : parseMethodDescriptor "([BII)[B" = some ⟨[(.array .byte), .int, .int], some (.array .byte)⟩ := by decide +kernel
abbrev B40 := jdk_65_method_132_code
theorem k40_0 : ((own_A B40 0 (.iload_n 1) 1 ∧ own_A B40 1 (.ifCond .ne 9) 3) ∧ own_A B40 4 (.iload_n 2) 1 ∧ own_A B40 5 (.aload_n 0) 1) ∧ (own_A B40 6 .arraylength 1 ∧ own_A B40 7 (.if_icmp .eq 10) 3) ∧ own_A B40 10 (.aload_n 0) 1 ∧ own_A B40 11 (.iload_n 1) 1 := by decide +kernel
theorem k40_1 : ((own_A B40 12 (.iload_n 2) 1 ∧ own_A B40 13 (.invokestatic 339) 3) ∧ own_A B40 16 .areturn 1 ∧ own_A B40 17 (.aload_n 0) 1) ∧ (own_A B40 18 (.invokevirtual 310) 3 ∧ own_A B40 21 (.checkcast 311) 3) ∧ own_A B40 24 .areturn 1 := by decide +kernel
theorem own_ef_40 (m : MethodId) (x0 : Addr) (x1 : Int32) (x2 : Int32) : entryFrame m #[(.ref x0), (.int x1), (.int x2)] 3 = mkF m 0 #[.val (.ref x0), .val (.int x1), .val (.int x2)] [] := by first | (simp [entryFrame, mkF, argsToLocals, Value.category]; done) | rfl
def Q40 (Z : State) (r0 : Addr) (p2 : Int32) (kk : ClassId) (zc : Int32) (bs : List Int32) (h0 : Heap) (n0 : Nat) (v : Option Value) (h : Heap) (L : List Loc) : Prop := ∃ (a2 : Addr) (k2 : ClassId) (z2 : Int32), v = some (.ref a2) ∧ Fr n0 L ∧ Keep h0 h [] ∧ h0.size ≤ a2 ∧ Exa Z h a2 "[B" ∧ Arv Z h a2 k2 .byte z2 (own_v bs) (.int 0) ∧ (z2.toInt = (bs.length : Int))
set_option maxRecDepth 65536 in
set_option maxHeartbeats 40000000 in
theorem rm40 (l : Launch) (Z : State) (a0 : Array Value) (hw : ∀ d ∈ tables_1, d.before a0 Z = true) (ws : List Jvm.Cond) (r0 : Addr) (p2 : Int32) (kk : ClassId) (zc : Int32) (bs : List Int32) (h0 : Heap) (n0 : Nat) (Z0 : n0 ≤ h0.size) (Ea : Exa Z h0 r0 "[B") (Va : Arv Z h0 r0 kk .byte zc (own_v bs) (.int 0)) (hp : p2.toInt = (bs.length : Int)) (hz : (bs.length : Int) ≤ zc.toInt ∧ zc.toInt ≤ 200) :
    MetFree l y_32 (head1 (Jvm.Cond.code y_32 jdk_65_method_132_code 3 (some (.array .byte)) :: ws) R_16) (fun a U => a = #[(.ref r0), (.int 0), (.int p2)] ∧ Z.Warmed39 U.vm ∧ U.heap = h0) (fun _ _ _ _ _ => True) (fun _ U o U' => ∃ v L, o = .returned v ∧ Q40 Z r0 p2 kk zc bs h0 n0 v U'.heap L ∧ FrameEnd U o U' L R_16.cells R_16.slots) := by
  refine MetFree.of_bodySF (plainFor_of_name own_pn2) hisR ?_
  intro p e s m args below meth c s₁ Bd hml0 hP hK
  obtain ⟨rfl, hZ, hh⟩ := hP
  have hx := Bd.exec
  have hby := Bd.bytes
  have hml : c.maxLocals = 3 := hml0
  have hown : s.vm.findClass "java/util/Arrays" = some m.cls := findClass_of_methodNamed Bd.named
  have hnm := (name_of_methodNamed Bd.named Bd.method).1
  have X0 : Stand p l e R_16 s m #[(.ref r0), (.int 0), (.int p2)] below meth c s₁ [] 0 0 := Stand.of_body Bd
  have e0 : s₁.heap = h0 := by rw [← hh, Bd.state]; rfl
  have N0 := Fr.nil n0
  have KR : Keep h0 h0 [] := Keep.refl h0 _
  show Good p e below (fun o U' => ∃ v L, o = .returned v ∧ Q40 Z r0 p2 kk zc bs h0 n0 v U'.heap L ∧ FrameEnd s o U' L R_16.cells R_16.slots) _
  refine Good.back (S' := s₁.setTop (mkF m 0 #[.val (.ref r0), .val (.int 0), .val (.int p2)] [])) (fun t k => castTop (own_ef_40 m r0 (0 : Int32) p2) k) ?_
  show Good p e below _ (s₁.setTop (mkF m 0 (a_RII r0 0 p2) []))
  refine Good.back (fun _ k => XS.iloadN X0.here hx rfl (hb hby k40_0.1.1.1) rfl k) ?_
  refine Good.back (fun _ k => XS.ifNo X0.here hx rfl (hb hby k40_0.1.1.2) rfl ((if0 _ _).trans (teq (by decide : ((0 : Int32) = (0 : Int32)))).2) k) ?_
  refine Good.back (fun _ k => XS.iloadN X0.here hx rfl (hb hby k40_0.1.2.1) rfl k) ?_
  refine Good.back (fun _ k => XS.aloadN X0.here hx rfl (hb hby k40_0.1.2.2) rfl rfl k) ?_
  have fc1 := Va
  obtain ⟨cl1, Ar1, qk1, S1, N1', H1, G1⟩ := fc1
  refine Good.back (X0.arraylength hx (by rw [e0]; exact Ar1.1) (State.isArrayOf_alike hZ.alike Ar1.2.1) (g := (mkF m 6 (a_RII r0 0 p2) [.ref r0, .int p2])) rfl rfl (hb hby k40_0.2.1.1)) ?_
  rw [len_of S1 N1']
  by_cases hc7_2 : p2 = zc
  · refine Good.back (fun _ k => XS.icmpYes X0.here hx rfl (pc0 := 7) (pc' := 17) rfl (hb hby k40_0.2.1.2) rfl (teq hc7_2).1 (by decide) (by decide) k) ?_
    refine Good.back (fun _ k => XS.aloadN X0.here hx rfl (hb hby k40_1.1.2.2) rfl rfl k) ?_
    obtain ⟨T3, h3, X3, e3, E3, A3, B3, st3⟩ := cloneH X0 hx hZ hown (wd hw 283 rfl) (wd hw 284 rfl) (wd hw 288 rfl) (wd hw 286 rfl) (wd hw 287 rfl) (wd hw 289 rfl) e0 (Arv.arh Va) Ea (g := (mkF m 18 (a_RII r0 0 p2) [.ref r0])) rfl (by rw [hml]; rfl) rfl (hb hby k40_1.2.1.1) (by decide) (W := 0) (cap := 200) (by show 2 * 0 + _ ≤ _; exact Nat.le_of_eq rfl) (by decide) (by have := own_nat (z := zc) (by omega); omega) (by decide) (by decide)
    obtain ⟨b3, g3⟩ : ∃ z, z = h0.size := ⟨_, rfl⟩
    rw [← g3] at A3 B3 st3
    refine Good.back st3 ?_
    have g_b3 : n0 ≤ b3 := Nat.le_trans Z0 (Nat.le_of_eq g3.symm)
    have sz_b3 : h0.size ≤ b3 := Nat.le_trans KR.1 (Nat.le_of_eq g3.symm)
    have Z4 : n0 ≤ h3.size := Nat.le_trans Z0 E3.1
    have K5 : Keep h0 h3 [] := KR.ext E3
    have f_6 : Arv Z h3 b3 kk .byte zc (own_v bs) (.int 0) := A3
    have f_7 : Exa Z h3 b3 "[B" := B3
    obtain ⟨T8, X8, e8, st8⟩ := castY X3 hx hZ hown (wd hw 290 rfl) e3 (Ins.self f_7) (g := (mkF m 21 (a_RII r0 0 p2) [.ref b3])) rfl rfl (hb hby k40_1.2.1.2)
    refine Good.back st8 ?_
    show Good p e below _ (T8.setTop (mkF m 24 (a_RII r0 0 p2) [.ref b3]))
    obtain ⟨fs9, hr9, hrun9, hended9, hW9, hsame9⟩ := X8.leave (v := some (.ref b3)) (fun h => by rw [Bd.returns] at h; cases h)
    refine Good.done (retOut X8 hx Bd.returns rfl (Or.inr (Or.inr (Or.inr (Or.inr ⟨rfl, rfl, rfl⟩)))) (hb hby k40_1.2.2) hr9) hrun9 hended9 ⟨_, _, rfl, ?_, ⟨_, rfl⟩, hW9, hsame9.mono (by decide) (by decide)⟩
    show Q40 Z r0 p2 kk zc bs h0 n0 _ T8.heap _
    rw [e8]
    exact ⟨b3, kk, zc, rfl, N0, K5, sz_b3, f_7, f_6, (by rw [← hc7_2]; exact hp)⟩
  · refine Good.back (fun _ k => XS.icmpNo X0.here hx rfl (hb hby k40_0.2.1.2) rfl (feq hc7_2).1 k) ?_
    refine Good.back (fun _ k => XS.aloadN X0.here hx rfl (hb hby k40_0.2.2.1) rfl rfl k) ?_
    refine Good.back (fun _ k => XS.iloadN X0.here hx rfl (hb hby k40_0.2.2.2) rfl k) ?_
    refine Good.back (fun _ k => XS.iloadN X0.here hx rfl (hb hby k40_1.1.1.1) rfl k) ?_
    obtain ⟨_, _, ⟨T10, L10, k10, n10⟩, -, X10, ⟨Lc10, hQ10, l10, y10, z10⟩, st10⟩ := Jvm.LawKit.callS X0 hx (y := y_31) hown (mvT hZ (wd hw 228 rfl)) (mvT hZ (wd hw 229 rfl)) (mvT hZ (wd hw 137 rfl)) (mvT hZ (wd hw 230 rfl)) (by decide) (backOf (W := 0) (rm41 l Z a0 hw [] r0 p2 kk zc bs h0 n0 Z0 Va (hp) (hz)) hZ (wd hw 230 rfl) (wd hw 137 rfl) (by decide) (by decide)) (g := (mkF m 13 (a_RII r0 0 p2) [.int p2, .int 0, .ref r0])) rfl (by rw [hml]; rfl) (argsL := [(.ref r0), (.int 0), (.int p2)]) (rest := []) (lenOf own_pd20 rfl) rfl (by show 2 * 0 + _ ≤ _; exact Nat.le_of_eq rfl) (hb hby k40_1.1.1.2) (fun _ _ => ⟨rfl, e0, (by decide : 0 + 1 ≤ _), (by decide : 0 + 200 ≤ _)⟩)
    dsimp only [Pt.U, Pt.locs, Pt.cells, Pt.slots] at X10 l10 y10 z10 st10 hQ10
    subst l10 y10 z10
    obtain ⟨a2_10, k2_10, z2_10, rfl, N10q, Kq10, o10_0, o10_1, o10_2, o10_3⟩ := hQ10
    have N10 := Fr.app N0 N10q
    have Z11 : n0 ≤ T10.heap.size := Nat.le_trans Z0 Kq10.1
    have K12 : Keep h0 T10.heap [] := KR.trans Kq10 all0
    have g_a2_10 : n0 ≤ a2_10 := Nat.le_trans Z0 o10_0
    have sz_a2_10 : h0.size ≤ a2_10 := Nat.le_trans KR.1 o10_0
    refine Good.back st10 ?_
    show Good p e below _ (T10.setTop (mkF m 16 (a_RII r0 0 p2) [.ref a2_10]))
    obtain ⟨fs13, hr13, hrun13, hended13, hW13, hsame13⟩ := X10.leave (v := some (.ref a2_10)) (fun h => by rw [Bd.returns] at h; cases h)
    refine Good.done (retOut X10 hx Bd.returns rfl (Or.inr (Or.inr (Or.inr (Or.inr ⟨rfl, rfl, rfl⟩)))) (hb hby k40_1.1.2.1) hr13) hrun13 hended13 ⟨_, _, rfl, ?_, ⟨_, rfl⟩, hW13, hsame13.mono (by decide) (by decide)⟩
    show Q40 Z r0 p2 kk zc bs h0 n0 _ T10.heap _
    exact ⟨a2_10, k2_10, z2_10, rfl, N10, K12, sz_a2_10, o10_1, o10_2, (o10_3)⟩
theorem own_pd21 : parseMethodDescriptor "()[B" = some ⟨[], some (.array .byte)⟩ := by decide +kernel
abbrev B36 := jdk_42_method_150_code
theorem k36_0 : ((own_A B36 0 (.aload_n 0) 1 ∧ own_A B36 1 (.invokespecial 1) 3) ∧ own_A B36 4 (.aload_n 1) 1 ∧ own_A B36 5 (.invokevirtual 552) 3) ∧ (own_A B36 8 (.astore_n 3) 1 ∧ own_A B36 9 (.aload_n 1) 1) ∧ own_A B36 10 (.invokevirtual 549) 3 ∧ own_A B36 13 (.istore 4) 2 := by decide +kernel
theorem k36_1 : ((own_A B36 15 (.aload_n 1) 1 ∧ own_A B36 16 (.invokevirtual 1047) 3) ∧ own_A B36 19 (.ifCond .eq 22) 3 ∧ own_A B36 22 (.aload_n 0) 1) ∧ (own_A B36 23 (.iconst 0) 1 ∧ own_A B36 24 (.putfield 15) 3) ∧ own_A B36 27 (.aload_n 0) 1 ∧ own_A B36 28 (.aload_n 3) 1 := by decide +kernel
theorem k36_2 : ((own_A B36 29 (.iconst 0) 1 ∧ own_A B36 30 (.iload 4) 2) ∧ own_A B36 32 (.invokestatic 54) 3) ∧ (own_A B36 35 (.putfield 9) 3 ∧ own_A B36 38 (.goto 59) 3) ∧ own_A B36 97 .return_ 1 := by decide +kernel
theorem own_ef_36 (m : MethodId) (x0 : Addr) (x1 : Addr) : entryFrame m #[(.ref x0), (.ref x1), .null] 5 = mkF m 0 #[.val (.ref x0), .val (.ref x1), .val .null, .unset, .unset] [] := by first | (simp [entryFrame, mkF, argsToLocals, Value.category]; done) | rfl
def Q36 (Z : State) (r0 : Addr) (r1 : Addr) (cs : Int32) (ar : Addr) (kk : ClassId) (zc : Int32) (ct : Int32) (bs : List Int32) (h0 : Heap) (n0 : Nat) (v : Option Value) (h : Heap) (L : List Loc) : Prop := ∃ (a2 : Addr) (k2 : ClassId) (z2 : Int32), v = none ∧ Fr n0 L ∧ Keep h0 h [r0] ∧ h0.size ≤ a2 ∧ Exa Z h a2 "[B" ∧ Arv Z h a2 k2 .byte z2 (own_v bs) (.int 0) ∧ (z2.toInt = (bs.length : Int)) ∧ Fld Z h r0 "java/lang/String" "value" "[B" (.ref a2) ∧ Fld Z h r0 "java/lang/String" "coder" "B" (.int 0)
set_option maxRecDepth 65536 in
set_option maxHeartbeats 40000000 in
theorem rm36 (l : Launch) (Z : State) (a0 : Array Value) (hw : ∀ d ∈ tables_1, d.before a0 Z = true) (ws : List Jvm.Cond) (r0 : Addr) (r1 : Addr) (cs : Int32) (ar : Addr) (kk : ClassId) (zc : Int32) (ct : Int32) (bs : List Int32) (h0 : Heap) (n0 : Nat) (Z0 : n0 ≤ h0.size) (S_cs : Sta Z h0 "java/lang/String" "COMPACT_STRINGS" "Z" (.int cs)) (hcs : ¬ (cs = (0 : Int32))) (E0 : Exa Z h0 r0 "java/lang/String") (g0 : n0 ≤ r0) (F_v : Fld Z h0 r0 "java/lang/String" "value" "[B" .null) (F_c : Fld Z h0 r0 "java/lang/String" "coder" "B" (.int 0)) (Eb : Exa Z h0 r1 "java/lang/StringBuilder") (Fk : Fld Z h0 r1 "java/lang/AbstractStringBuilder" "coder" "B" (.int 0)) (Fc : Fld Z h0 r1 "java/lang/AbstractStringBuilder" "count" "I" (.int ct)) (Fv : Fld Z h0 r1 "java/lang/AbstractStringBuilder" "value" "[B" (.ref ar)) (Ea : Exa Z h0 ar "[B") (Va : Arv Z h0 ar kk .byte zc (own_v bs) (.int 0)) (hc : ct.toInt = (bs.length : Int)) (hz : (bs.length : Int) ≤ zc.toInt ∧ zc.toInt ≤ 200) :
    MetFree l y_33 (head1 (Jvm.Cond.code y_33 jdk_42_method_150_code 5 none :: ws) R_17) (fun a U => a = #[(.ref r0), (.ref r1), .null] ∧ Z.Warmed39 U.vm ∧ U.heap = h0) (fun _ _ _ _ _ => True) (fun _ U o U' => ∃ v L, o = .returned v ∧ Q36 Z r0 r1 cs ar kk zc ct bs h0 n0 v U'.heap L ∧ FrameEnd U o U' L R_17.cells R_17.slots) := by
  refine MetFree.of_bodySF (plainFor_of_name own_pn3) hisR ?_
  intro p e s m args below meth c s₁ Bd hml0 hP hK
  obtain ⟨rfl, hZ, hh⟩ := hP
  have hx := Bd.exec
  have hby := Bd.bytes
  have hml : c.maxLocals = 5 := hml0
  have hown : s.vm.findClass "java/lang/String" = some m.cls := findClass_of_methodNamed Bd.named
  have hnm := (name_of_methodNamed Bd.named Bd.method).1
  have X0 : Stand p l e R_17 s m #[(.ref r0), (.ref r1), .null] below meth c s₁ [] 0 0 := Stand.of_body Bd
  have e0 : s₁.heap = h0 := by rw [← hh, Bd.state]; rfl
  have N0 := Fr.nil n0
  have KR : Keep h0 h0 [r0] := Keep.refl h0 _
  show Good p e below (fun o U' => ∃ v L, o = .returned v ∧ Q36 Z r0 r1 cs ar kk zc ct bs h0 n0 v U'.heap L ∧ FrameEnd s o U' L R_17.cells R_17.slots) _
  refine Good.back (S' := s₁.setTop (mkF m 0 #[.val (.ref r0), .val (.ref r1), .val .null, .unset, .unset] [])) (fun t k => castTop (own_ef_36 m r0 r1) k) ?_
  show Good p e below _ (s₁.setTop (mkF m 0 (a_RRnuu r0 r1) []))
  refine Good.back (fun _ k => XS.aloadN X0.here hx rfl (hb hby k36_0.1.1.1) rfl rfl k) ?_
  obtain ⟨T1, X1, e1, st1⟩ := initO X0 hx hZ hown (wd hw 210 rfl) (wd hw 8 rfl) (wd hw 9 rfl) e0 (g := (mkF m 1 (a_RRnuu r0 r1) [.ref r0])) rfl (by rw [hml]; rfl) rfl (hb hby k36_0.1.1.2) (by decide) (W := 0) (by show 2 * 0 + _ ≤ _; exact Nat.le_of_eq rfl) (by decide)
  refine Good.back st1 ?_
  refine Good.back (fun _ k => XS.aloadN X1.here hx rfl (hb hby k36_0.1.2.1) rfl rfl k) ?_
  obtain ⟨cq2, kq2, q2a, q2b, q2c⟩ := isOf hZ e1 Eb
  obtain ⟨_, _, ⟨T2, L2, k2, n2⟩, -, X2, ⟨Lc2, hQ2, l2, y2, z2⟩, st2⟩ := X1.virtualBack hx (y := y_27) (z := y_27) hown (mvT hZ (wd hw 211 rfl)) (mvT hZ (wd hw 212 rfl)) (notFace_of_selects (args := #[]) (mvT hZ (wd hw 214 rfl))) (mvT hZ (wd hw 214 rfl)) (mvT hZ (wd hw 213 rfl)) (by decide) (backOf (W := 0) (rm37 l Z a0 hw [] r1 ar h0 n0 Z0 Fv) hZ (wd hw 215 rfl) (wd hw 26 rfl) (by decide) (by decide)) q2a q2c (g := (mkF m 5 (a_RRnuu r0 r1) [.ref r1])) rfl (by rw [hml]; rfl) (Steps.refl _) (argsL := []) (rest := []) (lenOf own_pd21 rfl) rfl (by show 2 * 0 + _ ≤ _; exact Nat.le_of_eq rfl) (hb hby k36_0.1.2.2) (fun _ _ => ⟨rfl, e1, (by decide : 0 + 0 ≤ _), (by decide : 0 + 0 ≤ _)⟩)
  dsimp only [Pt.U, Pt.locs, Pt.cells, Pt.slots] at X2 l2 y2 z2 st2 hQ2
  subst l2 y2 z2
  obtain ⟨rfl, N2q, eh2⟩ := hQ2
  have N2 := Fr.app N0 N2q
  refine Good.back (fun _ k => st2.trans k) ?_
  refine Good.back (fun _ k => XS.astoreN X2.here hx rfl (hb hby k36_0.2.1.1) rfl rfl (l' := (a_RRnRu r0 r1 ar)) rfl k) ?_
  refine Good.back (fun _ k => XS.aloadN X2.here hx rfl (hb hby k36_0.2.1.2) rfl rfl k) ?_
  obtain ⟨cq3, kq3, q3a, q3b, q3c⟩ := isOf hZ eh2 Eb
  obtain ⟨_, _, ⟨T3, L3, k3, n3⟩, -, X3, ⟨Lc3, hQ3, l3, y3, z3⟩, st3⟩ := X2.virtualBack hx (y := y_28) (z := y_29) hown (mvT hZ (wd hw 216 rfl)) (mvT hZ (wd hw 217 rfl)) (own_nf (z := y_5) (args := #[]) (mvT hZ (wd hw 70 rfl)) rfl) (mvT hZ (wd hw 219 rfl)) (mvT hZ (wd hw 220 rfl)) (by decide) (backOf (W := 0) (rm38 l Z a0 hw [] r1 ct h0 n0 Z0 Eb Fc) hZ (wd hw 221 rfl) (wd hw 18 rfl) (by decide) (by decide)) q3a q3c (g := (mkF m 10 (a_RRnRu r0 r1 ar) [.ref r1])) rfl (by rw [hml]; rfl) (Steps.refl _) (argsL := []) (rest := []) (lenOf own_pd7 rfl) rfl (by show 2 * 0 + _ ≤ _; exact Nat.le_of_eq rfl) (hb hby k36_0.2.2.1) (fun _ _ => ⟨rfl, eh2, (by decide : 0 + 0 ≤ _), (by decide : 0 + 0 ≤ _)⟩)
  dsimp only [Pt.U, Pt.locs, Pt.cells, Pt.slots] at X3 l3 y3 z3 st3 hQ3
  subst l3 y3 z3
  obtain ⟨rfl, N3q, eh3⟩ := hQ3
  have N3 := Fr.app N2 N3q
  refine Good.back (fun _ k => st3.trans k) ?_
  refine Good.back (fun _ k => XS.istore X3.here hx rfl (hb hby k36_0.2.2.2) rfl (l' := (a_RRnRI r0 r1 ar ct)) rfl k) ?_
  refine Good.back (fun _ k => XS.aloadN X3.here hx rfl (hb hby k36_1.1.1.1) rfl rfl k) ?_
  obtain ⟨cq4, kq4, q4a, q4b, q4c⟩ := isOf hZ eh3 Eb
  obtain ⟨_, _, ⟨T4, L4, k4, n4⟩, -, X4, ⟨Lc4, hQ4, l4, y4, z4⟩, st4⟩ := X3.virtualBack hx (y := y_15) (z := y_15) hown (mvT hZ (wd hw 224 rfl)) (mvT hZ (wd hw 109 rfl)) (notFace_of_selects (args := #[]) (mvT hZ (wd hw 111 rfl))) (mvT hZ (wd hw 111 rfl)) (mvT hZ (wd hw 110 rfl)) (by decide) (backOf (W := 0) (rm17 l Z a0 hw [] r1 cs h0 n0 Z0 S_cs (hcs) Fk) hZ (wd hw 112 rfl) (wd hw 26 rfl) (by decide) (by decide)) q4a q4c (g := (mkF m 16 (a_RRnRI r0 r1 ar ct) [.ref r1])) rfl (by rw [hml]; rfl) (Steps.refl _) (argsL := []) (rest := []) (lenOf own_pd12 rfl) rfl (by show 2 * 0 + _ ≤ _; exact Nat.le_of_eq rfl) (hb hby k36_1.1.1.2) (fun _ _ => ⟨rfl, eh3, (by decide : 0 + 0 ≤ _), (by decide : 0 + 0 ≤ _)⟩)
  dsimp only [Pt.U, Pt.locs, Pt.cells, Pt.slots] at X4 l4 y4 z4 st4 hQ4
  subst l4 y4 z4
  obtain ⟨rfl, N4q, eh4⟩ := hQ4
  have N4 := Fr.app N3 N4q
  refine Good.back (fun _ k => st4.trans k) ?_
  refine Good.back (fun _ k => XS.ifNo X4.here hx rfl (hb hby k36_1.1.2.1) rfl ((if0 _ _).trans (feq (by decide : ¬ ((1 : Int32) = (0 : Int32)))).1) k) ?_
  refine Good.back (fun _ k => XS.aloadN X4.here hx rfl (hb hby k36_1.1.2.2) rfl rfl k) ?_
  refine Good.back (fun _ k => XS.iconst X4.here hx rfl (hb hby k36_1.2.1.1) k) ?_
  obtain ⟨T5, h5, X5, e5, W5, st5⟩ := putFN X4 hx hZ hown (wd hw 64 rfl) Via.refl eh4 F_c E0 (Or.inr ⟨(wd hw 39 rfl), rfl, hnm⟩) (wd hw 37 rfl) (ty := .byte) (v' := (.int 0)) (by decide) rfl (by decide) (g := (mkF m 24 (a_RRnRI r0 r1 ar ct) [.int 0, .ref r0])) rfl rfl (hb hby k36_1.2.1.2)
  refine Good.back st5 ?_
  have f_6 : Fld Z h5 r0 "java/lang/String" "coder" "B" (.int 0) := Fld.same W5 F_c
  have N5 := Fr.snoc X5 N4 g0
  have Z7 : n0 ≤ h5.size := Nat.le_trans Z0 (Keep.of_wr W5).1
  have K8 : Keep h0 h5 [r0] := KR.wr W5 (Or.inl (List.mem_of_getElem? (i := 0) rfl))
  refine Good.back (fun _ k => XS.aloadN X5.here hx rfl (hb hby k36_1.2.2.1) rfl rfl k) ?_
  refine Good.back (fun _ k => XS.aloadN X5.here hx rfl (hb hby k36_1.2.2.2) rfl rfl k) ?_
  refine Good.back (fun _ k => XS.iconst X5.here hx rfl (hb hby k36_2.1.1.1) k) ?_
  refine Good.back (fun _ k => XS.iload X5.here hx rfl (hb hby k36_2.1.1.2) rfl k) ?_
  have f_10 : Exa Z h5 ar "[B" := Exa.wr W5 Ea
  have f_12 : Exa Z h5 r0 "java/lang/String" := Exa.wr W5 E0
  have ne_ar_r0_13 : ar ≠ r0 := Exa.ne f_10 f_12 (by decide)
  have f_11 : Arv Z h5 ar kk .byte zc (own_v bs) (.int 0) := Arv.other Va W5 ne_ar_r0_13
  obtain ⟨_, _, ⟨T9, L9, k9, n9⟩, -, X9, ⟨Lc9, hQ9, l9, y9, z9⟩, st9⟩ := Jvm.LawKit.callS X5 hx (y := y_32) hown (mvT hZ (wd hw 225 rfl)) (mvT hZ (wd hw 226 rfl)) (mvT hZ (wd hw 137 rfl)) (mvT hZ (wd hw 227 rfl)) (by decide) (backOf (W := 1) (rm40 l Z a0 hw [] ar ct kk zc bs h5 n0 Z7 f_10 f_11 (hc) (hz)) hZ (wd hw 227 rfl) (wd hw 137 rfl) (by decide) (by decide)) (g := (mkF m 32 (a_RRnRI r0 r1 ar ct) [.int ct, .int 0, .ref ar, .ref r0])) rfl (by rw [hml]; rfl) (argsL := [(.ref ar), (.int 0), (.int ct)]) (rest := [(.ref r0)]) (lenOf own_pd20 rfl) rfl (by show 2 * 0 + _ ≤ _; exact Nat.le_of_eq rfl) (hb hby k36_2.1.2) (fun _ _ => ⟨rfl, e5, (by decide : 0 + 1 ≤ _), (by decide : 0 + 200 ≤ _)⟩)
  dsimp only [Pt.U, Pt.locs, Pt.cells, Pt.slots] at X9 l9 y9 z9 st9 hQ9
  subst l9 y9 z9
  obtain ⟨a2_9, k2_9, z2_9, rfl, N9q, Kq9, o9_0, o9_1, o9_2, o9_3⟩ := hQ9
  have N9 := Fr.app N5 N9q
  have Z14 : n0 ≤ T9.heap.size := Nat.le_trans Z7 Kq9.1
  have K15 : Keep h0 T9.heap [r0] := K8.trans Kq9 all0
  have g_a2_9 : n0 ≤ a2_9 := Nat.le_trans Z7 o9_0
  have sz_a2_9 : h0.size ≤ a2_9 := Nat.le_trans K8.1 o9_0
  refine Good.back st9 ?_
  have f_16 : Fld Z h5 r0 "java/lang/String" "value" "[B" .null := Fld.other W5 F_v (Or.inr (slot_ne (Or.inr (wd hw 38 rfl)) (Or.inr (wd hw 39 rfl)) (by decide) (t := (.array .byte)) (t' := .byte) (by decide) (by decide)))
  have f_17 := Fld.keep f_16 Kq9 nin0
  have f_18 : Exa Z h5 r0 "java/lang/String" := Exa.wr W5 E0
  have f_19 := Exa.keep f_18 Kq9
  obtain ⟨T20, h20, X20, e20, W20, st20⟩ := putF X9 hx hZ hown (host := "") (Or.inl (wd hw 57 rfl)) Via.refl rfl f_17 f_19 (Or.inr ⟨(wd hw 38 rfl), rfl, hnm⟩) (wd hw 37 rfl) (ty := (.array .byte)) (by decide) rfl rfl (g := (mkF m 35 (a_RRnRI r0 r1 ar ct) [.ref a2_9, .ref r0])) rfl rfl (hb hby k36_2.2.1.1)
  refine Good.back st20 ?_
  have f_21 : Fld Z h20 r0 "java/lang/String" "value" "[B" (.ref a2_9) := Fld.same W20 f_17
  have N20 := Fr.snoc X20 N9 g0
  have Z22 : n0 ≤ h20.size := Nat.le_trans Z14 (Keep.of_wr W20).1
  have K23 : Keep h0 h20 [r0] := K15.wr W20 (Or.inl (List.mem_of_getElem? (i := 0) rfl))
  refine Good.back (fun _ k => XS.goto X20.here hx rfl (pc0 := 38) (pc' := 97) rfl (hb hby k36_2.2.1.2) (by decide) (by decide) k) ?_
  show Good p e below _ (T20.setTop (mkF m 97 (a_RRnRI r0 r1 ar ct) []))
  obtain ⟨fs24, hr24, hrun24, hended24, hW24, hsame24⟩ := X20.leave (v := none) (fun _ => rfl)
  refine Good.done (X20.returnOut hx Bd.returns (hb hby k36_2.2.2) hr24) hrun24 hended24 ⟨_, _, rfl, ?_, ⟨_, rfl⟩, hW24, hsame24.mono (by decide) (by decide)⟩
  show Q36 Z r0 r1 cs ar kk zc ct bs h0 n0 _ T20.heap _
  rw [e20]
  have f_25 : Exa Z h20 a2_9 "[B" := Exa.wr W20 o9_1
  have ne_r0_a2_9_27 : r0 ≠ a2_9 := Nat.ne_of_lt (Nat.lt_of_lt_of_le f_6.lt o9_0)
  have f_26 : Arv Z h20 a2_9 k2_9 .byte z2_9 (own_v bs) (.int 0) := Arv.other o9_2 W20 (Ne.symm ne_r0_a2_9_27)
  have f_28 := Fld.keep f_6 Kq9 nin0
  have f_29 : Fld Z h20 r0 "java/lang/String" "coder" "B" (.int 0) := Fld.other W20 f_28 (Or.inr (slot_ne (Or.inr (wd hw 39 rfl)) (Or.inr (wd hw 38 rfl)) (by decide) (t := .byte) (t' := (.array .byte)) (by decide) (by decide)))
  exact ⟨a2_9, k2_9, z2_9, rfl, N20, K23, sz_a2_9, f_25, f_26, (o9_3), f_21, f_29⟩
theorem own_pd22 : parseMethodDescriptor "(Ljava/lang/AbstractStringBuilder;Ljava/lang/Void;)V" = some ⟨[(.object "java/lang/AbstractStringBuilder"), (.object "java/lang/Void")], none⟩ := by decide +kernel
abbrev B35 := jdk_42_method_53_code
theorem k35_0 : ((own_A B35 0 (.aload_n 0) 1 ∧ own_A B35 1 (.aload_n 1) 1) ∧ own_A B35 2 .aconst_null 1) ∧ own_A B35 3 (.invokespecial 489) 3 ∧ own_A B35 6 .return_ 1 := by decide +kernel
theorem own_ef_35 (m : MethodId) (x0 : Addr) (x1 : Addr) : entryFrame m #[(.ref x0), (.ref x1)] 2 = mkF m 0 #[.val (.ref x0), .val (.ref x1)] [] := by first | (simp [entryFrame, mkF, argsToLocals, Value.category]; done) | rfl
def Q35 (Z : State) (r0 : Addr) (r1 : Addr) (cs : Int32) (ar : Addr) (kk : ClassId) (zc : Int32) (ct : Int32) (bs : List Int32) (h0 : Heap) (n0 : Nat) (v : Option Value) (h : Heap) (L : List Loc) : Prop := ∃ (a2 : Addr) (k2 : ClassId) (z2 : Int32), v = none ∧ Fr n0 L ∧ Keep h0 h [r0] ∧ h0.size ≤ a2 ∧ Exa Z h a2 "[B" ∧ Arv Z h a2 k2 .byte z2 (own_v bs) (.int 0) ∧ (z2.toInt = (bs.length : Int)) ∧ Fld Z h r0 "java/lang/String" "value" "[B" (.ref a2) ∧ Fld Z h r0 "java/lang/String" "coder" "B" (.int 0)
set_option maxRecDepth 65536 in
set_option maxHeartbeats 40000000 in
theorem rm35 (l : Launch) (Z : State) (a0 : Array Value) (hw : ∀ d ∈ tables_1, d.before a0 Z = true) (ws : List Jvm.Cond) (r0 : Addr) (r1 : Addr) (cs : Int32) (ar : Addr) (kk : ClassId) (zc : Int32) (ct : Int32) (bs : List Int32) (h0 : Heap) (n0 : Nat) (Z0 : n0 ≤ h0.size) (S_cs : Sta Z h0 "java/lang/String" "COMPACT_STRINGS" "Z" (.int cs)) (hcs : ¬ (cs = (0 : Int32))) (E0 : Exa Z h0 r0 "java/lang/String") (g0 : n0 ≤ r0) (F_v : Fld Z h0 r0 "java/lang/String" "value" "[B" .null) (F_c : Fld Z h0 r0 "java/lang/String" "coder" "B" (.int 0)) (Eb : Exa Z h0 r1 "java/lang/StringBuilder") (Fk : Fld Z h0 r1 "java/lang/AbstractStringBuilder" "coder" "B" (.int 0)) (Fc : Fld Z h0 r1 "java/lang/AbstractStringBuilder" "count" "I" (.int ct)) (Fv : Fld Z h0 r1 "java/lang/AbstractStringBuilder" "value" "[B" (.ref ar)) (Ea : Exa Z h0 ar "[B") (Va : Arv Z h0 ar kk .byte zc (own_v bs) (.int 0)) (hc : ct.toInt = (bs.length : Int)) (hz : (bs.length : Int) ≤ zc.toInt ∧ zc.toInt ≤ 200) :
    MetFree l y_34 (head1 (Jvm.Cond.code y_34 jdk_42_method_53_code 2 none :: ws) R_18) (fun a U => a = #[(.ref r0), (.ref r1)] ∧ Z.Warmed39 U.vm ∧ U.heap = h0) (fun _ _ _ _ _ => True) (fun _ U o U' => ∃ v L, o = .returned v ∧ Q35 Z r0 r1 cs ar kk zc ct bs h0 n0 v U'.heap L ∧ FrameEnd U o U' L R_18.cells R_18.slots) := by
  refine MetFree.of_bodySF (plainFor_of_name own_pn3) hisR ?_
  intro p e s m args below meth c s₁ Bd hml0 hP hK
  obtain ⟨rfl, hZ, hh⟩ := hP
  have hx := Bd.exec
  have hby := Bd.bytes
  have hml : c.maxLocals = 2 := hml0
  have hown : s.vm.findClass "java/lang/String" = some m.cls := findClass_of_methodNamed Bd.named
  have hnm := (name_of_methodNamed Bd.named Bd.method).1
  have X0 : Stand p l e R_18 s m #[(.ref r0), (.ref r1)] below meth c s₁ [] 0 0 := Stand.of_body Bd
  have e0 : s₁.heap = h0 := by rw [← hh, Bd.state]; rfl
  have N0 := Fr.nil n0
  have KR : Keep h0 h0 [r0] := Keep.refl h0 _
  show Good p e below (fun o U' => ∃ v L, o = .returned v ∧ Q35 Z r0 r1 cs ar kk zc ct bs h0 n0 v U'.heap L ∧ FrameEnd s o U' L R_18.cells R_18.slots) _
  refine Good.back (S' := s₁.setTop (mkF m 0 #[.val (.ref r0), .val (.ref r1)] [])) (fun t k => castTop (own_ef_35 m r0 r1) k) ?_
  show Good p e below _ (s₁.setTop (mkF m 0 (a_RR r0 r1) []))
  refine Good.back (fun _ k => XS.aloadN X0.here hx rfl (hb hby k35_0.1.1.1) rfl rfl k) ?_
  refine Good.back (fun _ k => XS.aloadN X0.here hx rfl (hb hby k35_0.1.1.2) rfl rfl k) ?_
  refine Good.back (fun _ k => XS.aconstNull X0.here hx rfl (hb hby k35_0.1.2) k) ?_
  obtain ⟨_, _, ⟨T1, L1, k1, n1⟩, -, X1, ⟨Lc1, hQ1, l1, y1, z1⟩, st1⟩ := X0.specialBack hx (y := y_33) rfl hown (mvT hZ (wd hw 207 rfl)) (mvT hZ (wd hw 208 rfl)) (mvT hZ (wd hw 209 rfl)) (by decide) (backOf (W := 0) (rm36 l Z a0 hw [] r0 r1 cs ar kk zc ct bs h0 n0 Z0 S_cs (hcs) E0 g0 F_v F_c Eb Fk Fc Fv Ea Va (by first | assumption | decide) (by first | assumption | decide)) hZ (wd hw 209 rfl) (wd hw 30 rfl) (by decide) (by decide)) (g := (mkF m 3 (a_RR r0 r1) [.null, .ref r1, .ref r0])) rfl (by rw [hml]; rfl) (Steps.refl _) (a := r0) (argsL := [(.ref r1), .null]) (rest := []) (lenOf own_pd22 rfl) rfl (by show 2 * 0 + _ ≤ _; exact Nat.le_of_eq rfl) (hb hby k35_0.2.1) (fun _ _ => ⟨rfl, e0, (by decide : 0 + 1 ≤ _), (by decide : 0 + 200 ≤ _)⟩)
  dsimp only [Pt.U, Pt.locs, Pt.cells, Pt.slots] at X1 l1 y1 z1 st1 hQ1
  subst l1 y1 z1
  obtain ⟨a2_1, k2_1, z2_1, rfl, N1q, Kq1, o1_0, o1_1, o1_2, o1_3, o1_4, o1_5⟩ := hQ1
  have N1 := Fr.app N0 N1q
  have Z2 : n0 ≤ T1.heap.size := Nat.le_trans Z0 Kq1.1
  have K3 : Keep h0 T1.heap [r0] := KR.trans Kq1 (allS (Or.inl (List.mem_of_getElem? (i := 0) rfl)) all0)
  have g_a2_1 : n0 ≤ a2_1 := Nat.le_trans Z0 o1_0
  have sz_a2_1 : h0.size ≤ a2_1 := Nat.le_trans KR.1 o1_0
  refine Good.back (fun _ k => st1.trans k) ?_
  show Good p e below _ (T1.setTop (mkF m 6 (a_RR r0 r1) []))
  obtain ⟨fs4, hr4, hrun4, hended4, hW4, hsame4⟩ := X1.leave (v := none) (fun _ => rfl)
  refine Good.done (X1.returnOut hx Bd.returns (hb hby k35_0.2.2) hr4) hrun4 hended4 ⟨_, _, rfl, ?_, ⟨_, rfl⟩, hW4, hsame4.mono (by decide) (by decide)⟩
  show Q35 Z r0 r1 cs ar kk zc ct bs h0 n0 _ T1.heap _
  exact ⟨a2_1, k2_1, z2_1, rfl, N1, K3, sz_a2_1, o1_1, o1_2, (o1_3), o1_4, o1_5⟩
theorem own_pd23 : parseMethodDescriptor "(Ljava/lang/StringBuilder;)V" = some ⟨[(.object "java/lang/StringBuilder")], none⟩ := by decide +kernel
abbrev B34 := jdk_67_method_42_code
theorem k34_0 : ((own_A B34 0 (.new 18) 3 ∧ own_A B34 3 .dup 1) ∧ own_A B34 4 (.aload_n 0) 1) ∧ own_A B34 5 (.invokespecial 137) 3 ∧ own_A B34 8 .areturn 1 := by decide +kernel
theorem own_ef_34 (m : MethodId) (x0 : Addr) : entryFrame m #[(.ref x0)] 1 = mkF m 0 #[.val (.ref x0)] [] := by first | (simp [entryFrame, mkF, argsToLocals, Value.category]; done) | rfl
def Q34 (Z : State) (r0 : Addr) (cs : Int32) (ar : Addr) (kk : ClassId) (zc : Int32) (ct : Int32) (bs : List Int32) (h0 : Heap) (n0 : Nat) (v : Option Value) (h : Heap) (L : List Loc) : Prop := ∃ (sr : Addr) (a2 : Addr) (k2 : ClassId) (z2 : Int32), v = some (.ref sr) ∧ Fr n0 L ∧ Keep h0 h [] ∧ h0.size ≤ sr ∧ Exa Z h sr "java/lang/String" ∧ Fld Z h sr "java/lang/String" "value" "[B" (.ref a2) ∧ Fld Z h sr "java/lang/String" "coder" "B" (.int 0) ∧ h0.size ≤ a2 ∧ Exa Z h a2 "[B" ∧ Arv Z h a2 k2 .byte z2 (own_v bs) (.int 0) ∧ (z2.toInt = (bs.length : Int))
set_option maxRecDepth 65536 in
set_option maxHeartbeats 40000000 in
theorem rm34 (l : Launch) (Z : State) (a0 : Array Value) (hw : ∀ d ∈ tables_1, d.before a0 Z = true) (ws : List Jvm.Cond) (r0 : Addr) (cs : Int32) (ar : Addr) (kk : ClassId) (zc : Int32) (ct : Int32) (bs : List Int32) (h0 : Heap) (n0 : Nat) (Z0 : n0 ≤ h0.size) (S_cs : Sta Z h0 "java/lang/String" "COMPACT_STRINGS" "Z" (.int cs)) (hcs : ¬ (cs = (0 : Int32))) (Eb : Exa Z h0 r0 "java/lang/StringBuilder") (Fk : Fld Z h0 r0 "java/lang/AbstractStringBuilder" "coder" "B" (.int 0)) (Fc : Fld Z h0 r0 "java/lang/AbstractStringBuilder" "count" "I" (.int ct)) (Fv : Fld Z h0 r0 "java/lang/AbstractStringBuilder" "value" "[B" (.ref ar)) (Ea : Exa Z h0 ar "[B") (Va : Arv Z h0 ar kk .byte zc (own_v bs) (.int 0)) (hc : ct.toInt = (bs.length : Int)) (hz : (bs.length : Int) ≤ zc.toInt ∧ zc.toInt ≤ 200) :
    MetFree l y_35 (head1 (Jvm.Cond.code y_35 jdk_67_method_42_code 1 (some (.object "java/lang/String")) :: ws) R_19) (fun a U => a = #[(.ref r0)] ∧ Z.Warmed39 U.vm ∧ U.heap = h0) (fun _ _ _ _ _ => True) (fun _ U o U' => ∃ v L, o = .returned v ∧ Q34 Z r0 cs ar kk zc ct bs h0 n0 v U'.heap L ∧ FrameEnd U o U' L R_19.cells R_19.slots) := by
  refine MetFree.of_bodySF (plainFor_of_name own_pn4) hisR ?_
  intro p e s m args below meth c s₁ Bd hml0 hP hK
  obtain ⟨rfl, hZ, hh⟩ := hP
  have hx := Bd.exec
  have hby := Bd.bytes
  have hml : c.maxLocals = 1 := hml0
  have hown : s.vm.findClass "java/lang/StringBuilder" = some m.cls := findClass_of_methodNamed Bd.named
  have hnm := (name_of_methodNamed Bd.named Bd.method).1
  have X0 : Stand p l e R_19 s m #[(.ref r0)] below meth c s₁ [] 0 0 := Stand.of_body Bd
  have e0 : s₁.heap = h0 := by rw [← hh, Bd.state]; rfl
  have N0 := Fr.nil n0
  have KR : Keep h0 h0 [] := Keep.refl h0 _
  show Good p e below (fun o U' => ∃ v L, o = .returned v ∧ Q34 Z r0 cs ar kk zc ct bs h0 n0 v U'.heap L ∧ FrameEnd s o U' L R_19.cells R_19.slots) _
  refine Good.back (S' := s₁.setTop (mkF m 0 #[.val (.ref r0)] [])) (fun t k => castTop (own_ef_34 m r0) k) ?_
  show Good p e below _ (s₁.setTop (mkF m 0 (a_R r0) []))
  obtain ⟨T1, h1, X1, e1, E1, A1, D1, -, st1⟩ := newO X0 hx hZ hown (wd hw 202 rfl) (wd hw 37 rfl) (wd hw 30 rfl) e0 (g := (mkF m 0 (a_R r0) [])) rfl (hb hby k34_0.1.1.1) (by decide) (by decide)
  obtain ⟨b1, g1⟩ : ∃ z, z = h0.size := ⟨_, rfl⟩
  rw [← g1] at A1 D1 st1
  refine Good.back st1 ?_
  have g_b1 : n0 ≤ b1 := Nat.le_trans Z0 (Nat.le_of_eq g1.symm)
  have sz_b1 : h0.size ≤ b1 := Nat.le_trans KR.1 (Nat.le_of_eq g1.symm)
  have Z2 : n0 ≤ h1.size := Nat.le_trans Z0 E1.1
  have K3 : Keep h0 h1 [] := KR.ext E1
  have f_4 : Exa Z h1 b1 "java/lang/String" := A1
  have f_5 : Fld Z h1 b1 "java/lang/String" "value" "[B" .null := D1 (Or.inr (wd hw 38 rfl)) (ty := (.array .byte)) (by decide)
  have f_6 : Fld Z h1 b1 "java/lang/String" "coder" "B" (.int 0) := D1 (Or.inr (wd hw 39 rfl)) (ty := .byte) (by decide)
  refine Good.back (fun _ k => XS.dup X1.here hx rfl (hb hby k34_0.1.1.2) rfl rfl k) ?_
  refine Good.back (fun _ k => XS.aloadN X1.here hx rfl (hb hby k34_0.1.2) rfl rfl k) ?_
  have f_8 := Sta.ext E1 S_cs
  have f_9 := Exa.ext E1 Eb
  have f_10 := Fld.ext E1 Fk
  have f_11 := Fld.ext E1 Fc
  have f_12 := Fld.ext E1 Fv
  have f_13 := Exa.ext E1 Ea
  have f_14 := Arv.ext Va E1
  obtain ⟨_, _, ⟨T7, L7, k7, n7⟩, -, X7, ⟨Lc7, hQ7, l7, y7, z7⟩, st7⟩ := X1.specialBack hx (y := y_34) rfl hown (mvT hZ (wd hw 203 rfl)) (mvT hZ (wd hw 204 rfl)) (mvT hZ (wd hw 206 rfl)) (by decide) (backOf (W := 1) (rm35 l Z a0 hw [] b1 r0 cs ar kk zc ct bs h1 n0 Z2 f_8 (hcs) f_4 g_b1 f_5 f_6 f_9 f_10 f_11 f_12 f_13 f_14 (by first | assumption | decide) (by first | assumption | decide)) hZ (wd hw 206 rfl) (wd hw 30 rfl) (by decide) (by decide)) (g := (mkF m 5 (a_R r0) [.ref r0, .ref b1, .ref b1])) rfl (by rw [hml]; rfl) (Steps.refl _) (a := b1) (argsL := [(.ref r0)]) (rest := [(.ref b1)]) (lenOf own_pd23 rfl) rfl (by show 2 * 0 + _ ≤ _; exact Nat.le_of_eq rfl) (hb hby k34_0.2.1) (fun _ _ => ⟨rfl, e1, (by decide : 1 + 1 ≤ _), (by decide : 4 + 200 ≤ _)⟩)
  dsimp only [Pt.U, Pt.locs, Pt.cells, Pt.slots] at X7 l7 y7 z7 st7 hQ7
  subst l7 y7 z7
  obtain ⟨a2_7, k2_7, z2_7, rfl, N7q, Kq7, o7_0, o7_1, o7_2, o7_3, o7_4, o7_5⟩ := hQ7
  have N7 := Fr.app N0 N7q
  have Z15 : n0 ≤ T7.heap.size := Nat.le_trans Z2 Kq7.1
  have K16 : Keep h0 T7.heap [] := K3.trans Kq7 (allS (Or.inr sz_b1) all0)
  have g_a2_7 : n0 ≤ a2_7 := Nat.le_trans Z2 o7_0
  have sz_a2_7 : h0.size ≤ a2_7 := Nat.le_trans K3.1 o7_0
  refine Good.back (fun _ k => st7.trans k) ?_
  show Good p e below _ (T7.setTop (mkF m 8 (a_R r0) [.ref b1]))
  obtain ⟨fs17, hr17, hrun17, hended17, hW17, hsame17⟩ := X7.leave (v := some (.ref b1)) (fun h => by rw [Bd.returns] at h; cases h)
  refine Good.done (retOut X7 hx Bd.returns rfl (Or.inr (Or.inr (Or.inr (Or.inr ⟨rfl, rfl, rfl⟩)))) (hb hby k34_0.2.2) hr17) hrun17 hended17 ⟨_, _, rfl, ?_, ⟨_, rfl⟩, hW17, hsame17.mono (by decide) (by decide)⟩
  show Q34 Z r0 cs ar kk zc ct bs h0 n0 _ T7.heap _
  have f_18 := Exa.keep f_4 Kq7
  exact ⟨b1, a2_7, k2_7, z2_7, rfl, N7, K16, sz_b1, f_18, o7_4, o7_5, sz_a2_7, o7_1, o7_2, (o7_3)⟩
abbrev B28 := jdk_29_method_66_code
theorem k28_0 : ((own_A B28 0 (.lload_n 0) 1 ∧ own_A B28 1 (.lload_n 2) 1) ∧ own_A B28 2 .lcmp 1 ∧ own_A B28 3 (.ifCond .lt 7) 3) ∧ (own_A B28 6 (.lload_n 0) 1 ∧ own_A B28 7 (.goto 4) 3) ∧ own_A B28 11 .lreturn 1 := by decide +kernel
theorem own_ef_28 (m : MethodId) (x0 : Int64) (x1 : Int64) : entryFrame m #[(.long x0), (.long x1)] 4 = mkF m 0 #[.val (.long x0), .second, .val (.long x1), .second] [] := by first | (simp [entryFrame, mkF, argsToLocals, Value.category]; done) | rfl
def Q28 (Z : State)  (h0 : Heap) (n0 : Nat) (v : Option Value) (h : Heap) (L : List Loc) : Prop := v = some (.long 1000000000) ∧ Fr n0 L ∧ h = h0
set_option maxRecDepth 65536 in
set_option maxHeartbeats 40000000 in
theorem rm28 (l : Launch) (Z : State) (a0 : Array Value) (hw : ∀ d ∈ tables_1, d.before a0 Z = true) (ws : List Jvm.Cond)  (h0 : Heap) (n0 : Nat) (Z0 : n0 ≤ h0.size)  :
    MetFree l y_36 (head1 (Jvm.Cond.code y_36 jdk_29_method_66_code 4 (some .long) :: ws) R_0) (fun a U => a = #[(.long 1000000000), (.long 1)] ∧ Z.Warmed39 U.vm ∧ U.heap = h0) (fun _ _ _ _ _ => True) (fun _ U o U' => ∃ v L, o = .returned v ∧ Q28 Z  h0 n0 v U'.heap L ∧ FrameEnd U o U' L R_0.cells R_0.slots) := by
  refine MetFree.of_bodySF (Jvm.Free.JP.mathPlain rfl (by decide +kernel)) hisR ?_
  intro p e s m args below meth c s₁ Bd hml0 hP hK
  obtain ⟨rfl, hZ, hh⟩ := hP
  have hx := Bd.exec
  have hby := Bd.bytes
  have hml : c.maxLocals = 4 := hml0
  have hown : s.vm.findClass "java/lang/Math" = some m.cls := findClass_of_methodNamed Bd.named
  have hnm := (name_of_methodNamed Bd.named Bd.method).1
  have X0 : Stand p l e R_0 s m #[(.long 1000000000), (.long 1)] below meth c s₁ [] 0 0 := Stand.of_body Bd
  have e0 : s₁.heap = h0 := by rw [← hh, Bd.state]; rfl
  have N0 := Fr.nil n0
  show Good p e below (fun o U' => ∃ v L, o = .returned v ∧ Q28 Z  h0 n0 v U'.heap L ∧ FrameEnd s o U' L R_0.cells R_0.slots) _
  refine Good.back (S' := s₁.setTop (mkF m 0 #[.val (.long 1000000000), .second, .val (.long 1), .second] [])) (fun t k => castTop (own_ef_28 m (1000000000 : Int64) (1 : Int64)) k) ?_
  show Good p e below _ (s₁.setTop (mkF m 0 (a_JsJs 1000000000 1) []))
  refine Good.back (fun _ k => XS.lloadN X0.here hx rfl (hb hby k28_0.1.1.1) rfl k) ?_
  refine Good.back (fun _ k => XS.lloadN X0.here hx rfl (hb hby k28_0.1.1.2) rfl k) ?_
  refine Good.back (fun _ k => XS.lcmp X0.here hx rfl (hb hby k28_0.1.2.1) rfl k) ?_
  show Good p e below _ (s₁.setTop (mkF m 3 (a_JsJs 1000000000 1) [.int (lcmpW (1000000000 : Int64) (1 : Int64))]))
  refine Good.back (fun _ k => XS.ifNo X0.here hx rfl (hb hby k28_0.1.2.2) rfl ((if0 _ _).trans (flt (by decide)).1) k) ?_
  refine Good.back (fun _ k => XS.lloadN X0.here hx rfl (hb hby k28_0.2.1.1) rfl k) ?_
  refine Good.back (fun _ k => XS.goto X0.here hx rfl (pc0 := 7) (pc' := 11) rfl (hb hby k28_0.2.1.2) (by decide) (by decide) k) ?_
  show Good p e below _ (s₁.setTop (mkF m 11 (a_JsJs 1000000000 1) [.long 1000000000]))
  obtain ⟨fs1, hr1, hrun1, hended1, hW1, hsame1⟩ := X0.leave (v := some (.long 1000000000)) (fun h => by rw [Bd.returns] at h; cases h)
  refine Good.done (retOut X0 hx Bd.returns rfl (Or.inr (Or.inl ⟨rfl, rfl, _, rfl⟩)) (hb hby k28_0.2.2) hr1) hrun1 hended1 ⟨_, _, rfl, ?_, ⟨_, rfl⟩, hW1, hsame1.mono (by decide) (by decide)⟩
  show Q28 Z  h0 n0 _ s₁.heap _
  rw [e0]
  exact ⟨rfl, N0, rfl⟩
abbrev B30 := jdk_29_method_61_code
theorem k30_0 : ((own_A B30 0 (.lload_n 0) 1 ∧ own_A B30 1 (.lconst 0) 1) ∧ own_A B30 2 .lcmp 1 ∧ own_A B30 3 (.ifCond .ge 8) 3) ∧ (own_A B30 6 (.lload_n 0) 1 ∧ own_A B30 7 .lneg 1) ∧ own_A B30 8 (.goto 4) 3 ∧ own_A B30 11 (.lload_n 0) 1 := by decide +kernel
theorem k30_1 : own_A B30 12 .lreturn 1 := by decide +kernel
theorem own_ef_30 (m : MethodId) (x0 : Int64) : entryFrame m #[(.long x0)] 2 = mkF m 0 #[.val (.long x0), .second] [] := by first | (simp [entryFrame, mkF, argsToLocals, Value.category]; done) | rfl
def Q30 (Z : State) (q0 : Int64) (h0 : Heap) (n0 : Nat) (v : Option Value) (h : Heap) (L : List Loc) : Prop := v = some (.long (own_labs q0)) ∧ Fr n0 L ∧ h = h0
set_option maxRecDepth 65536 in
set_option maxHeartbeats 40000000 in
theorem rm30 (l : Launch) (Z : State) (a0 : Array Value) (hw : ∀ d ∈ tables_1, d.before a0 Z = true) (ws : List Jvm.Cond) (q0 : Int64) (h0 : Heap) (n0 : Nat) (Z0 : n0 ≤ h0.size)  :
    MetFree l y_37 (head1 (Jvm.Cond.code y_37 jdk_29_method_61_code 2 (some .long) :: ws) R_0) (fun a U => a = #[(.long q0)] ∧ Z.Warmed39 U.vm ∧ U.heap = h0) (fun _ _ _ _ _ => True) (fun _ U o U' => ∃ v L, o = .returned v ∧ Q30 Z q0 h0 n0 v U'.heap L ∧ FrameEnd U o U' L R_0.cells R_0.slots) := by
  refine MetFree.of_bodySF (Jvm.Free.JP.mathPlain rfl (by decide +kernel)) hisR ?_
  intro p e s m args below meth c s₁ Bd hml0 hP hK
  obtain ⟨rfl, hZ, hh⟩ := hP
  have hx := Bd.exec
  have hby := Bd.bytes
  have hml : c.maxLocals = 2 := hml0
  have hown : s.vm.findClass "java/lang/Math" = some m.cls := findClass_of_methodNamed Bd.named
  have hnm := (name_of_methodNamed Bd.named Bd.method).1
  have X0 : Stand p l e R_0 s m #[(.long q0)] below meth c s₁ [] 0 0 := Stand.of_body Bd
  have e0 : s₁.heap = h0 := by rw [← hh, Bd.state]; rfl
  have N0 := Fr.nil n0
  show Good p e below (fun o U' => ∃ v L, o = .returned v ∧ Q30 Z q0 h0 n0 v U'.heap L ∧ FrameEnd s o U' L R_0.cells R_0.slots) _
  refine Good.back (S' := s₁.setTop (mkF m 0 #[.val (.long q0), .second] [])) (fun t k => castTop (own_ef_30 m q0) k) ?_
  show Good p e below _ (s₁.setTop (mkF m 0 (a_Js q0) []))
  refine Good.back (fun _ k => XS.lloadN X0.here hx rfl (hb hby k30_0.1.1.1) rfl k) ?_
  refine Good.back (fun _ k => XS.lconst X0.here hx rfl (hb hby k30_0.1.1.2) k) ?_
  refine Good.back (fun _ k => XS.lcmp X0.here hx rfl (hb hby k30_0.1.2.1) rfl k) ?_
  by_cases hc3_1 : (lcmpW q0 (0 : Int64)) < (0 : Int32)
  · refine Good.back (fun _ k => XS.ifNo X0.here hx rfl (hb hby k30_0.1.2.2) rfl ((if0 _ _).trans (tlt hc3_1).2.1) k) ?_
    refine Good.back (fun _ k => XS.lloadN X0.here hx rfl (hb hby k30_0.2.1.1) rfl k) ?_
    refine Good.back (fun _ k => XS.lneg X0.here hx rfl (hb hby k30_0.2.1.2) rfl k) ?_
    show Good p e below _ (s₁.setTop (mkF m 8 (a_Js q0) [.long (-q0)]))
    refine Good.back (fun _ k => XS.goto X0.here hx rfl (pc0 := 8) (pc' := 12) rfl (hb hby k30_0.2.2.1) (by decide) (by decide) k) ?_
    show Good p e below _ (s₁.setTop (mkF m 12 (a_Js q0) [.long (-q0)]))
    obtain ⟨fs2, hr2, hrun2, hended2, hW2, hsame2⟩ := X0.leave (v := some (.long (-q0))) (fun h => by rw [Bd.returns] at h; cases h)
    refine Good.done (retOut X0 hx Bd.returns rfl (Or.inr (Or.inl ⟨rfl, rfl, _, rfl⟩)) (hb hby k30_1) hr2) hrun2 hended2 ⟨_, _, rfl, ?_, ⟨_, rfl⟩, hW2, hsame2.mono (by decide) (by decide)⟩
    show Q30 Z q0 h0 n0 _ s₁.heap _
    rw [e0]
    exact ⟨congrArg (fun z => some (Value.long z)) (by unfold own_labs; rw [if_pos hc3_1]), N0, rfl⟩
  · refine Good.back (fun _ k => XS.ifYes X0.here hx rfl (pc0 := 3) (pc' := 11) rfl (hb hby k30_0.1.2.2) rfl ((if0 _ _).trans (flt hc3_1).2.1) (by decide) (by decide) k) ?_
    refine Good.back (fun _ k => XS.lloadN X0.here hx rfl (hb hby k30_0.2.2.2) rfl k) ?_
    show Good p e below _ (s₁.setTop (mkF m 12 (a_Js q0) [.long q0]))
    obtain ⟨fs3, hr3, hrun3, hended3, hW3, hsame3⟩ := X0.leave (v := some (.long q0)) (fun h => by rw [Bd.returns] at h; cases h)
    refine Good.done (retOut X0 hx Bd.returns rfl (Or.inr (Or.inl ⟨rfl, rfl, _, rfl⟩)) (hb hby k30_1) hr3) hrun3 hended3 ⟨_, _, rfl, ?_, ⟨_, rfl⟩, hW3, hsame3.mono (by decide) (by decide)⟩
    show Q30 Z q0 h0 n0 _ s₁.heap _
    rw [e0]
    exact ⟨congrArg (fun z => some (Value.long z)) (by unfold own_labs; rw [if_neg hc3_1]), N0, rfl⟩
theorem own_pd24 : parseMethodDescriptor "(J)J" = some ⟨[.long], some .long⟩ := by decide +kernel
abbrev B29 := jdk_29_method_30_code
theorem k29_0 : ((own_A B29 0 (.lload_n 0) 1 ∧ own_A B29 1 (.lload_n 2) 1) ∧ own_A B29 2 .lmul 1 ∧ own_A B29 3 (.lstore 4) 2) ∧ (own_A B29 5 (.lload_n 0) 1 ∧ own_A B29 6 (.invokestatic 122) 3) ∧ own_A B29 9 (.lstore 6) 2 ∧ own_A B29 11 (.lload_n 2) 1 := by decide +kernel
theorem k29_1 : ((own_A B29 12 (.invokestatic 122) 3 ∧ own_A B29 15 (.lstore 8) 2) ∧ own_A B29 17 (.lload 6) 2 ∧ own_A B29 19 (.lload 8) 2) ∧ (own_A B29 21 .lor 1 ∧ own_A B29 22 (.bipush 31) 2) ∧ own_A B29 24 .lushr 1 ∧ own_A B29 25 (.lconst 0) 1 := by decide +kernel
theorem k29_2 : ((own_A B29 26 .lcmp 1 ∧ own_A B29 27 (.ifCond .eq 44) 3) ∧ own_A B29 30 (.lload_n 2) 1 ∧ own_A B29 31 (.lconst 0) 1) ∧ (own_A B29 32 .lcmp 1 ∧ own_A B29 33 (.ifCond .eq 12) 3) ∧ own_A B29 36 (.lload 4) 2 ∧ own_A B29 38 (.lload_n 2) 1 := by decide +kernel
theorem k29_3 : ((own_A B29 39 .ldiv 1 ∧ own_A B29 40 (.lload_n 0) 1) ∧ own_A B29 41 .lcmp 1 ∧ own_A B29 42 (.ifCond .ne 19) 3) ∧ (own_A B29 45 (.lload_n 0) 1 ∧ own_A B29 46 (.ldc2_w 128) 3) ∧ own_A B29 49 .lcmp 1 ∧ own_A B29 50 (.ifCond .ne 21) 3 := by decide +kernel
theorem k29_4 : own_A B29 71 (.lload 4) 2 ∧ own_A B29 73 .lreturn 1 := by decide +kernel
theorem own_ef_29 (m : MethodId) (x0 : Int64) (x1 : Int64) : entryFrame m #[(.long x0), (.long x1)] 10 = mkF m 0 #[.val (.long x0), .second, .val (.long x1), .second, .unset, .unset, .unset, .unset, .unset, .unset] [] := by first | (simp [entryFrame, mkF, argsToLocals, Value.category]; done) | rfl
def Q29 (Z : State) (q0 : Int64) (h0 : Heap) (n0 : Nat) (v : Option Value) (h : Heap) (L : List Loc) : Prop := v = some (.long (q0 * (1000000000 : Int64))) ∧ Fr n0 L ∧ h = h0
set_option maxRecDepth 65536 in
set_option maxHeartbeats 40000000 in
theorem rm29 (l : Launch) (Z : State) (a0 : Array Value) (hw : ∀ d ∈ tables_1, d.before a0 Z = true) (ws : List Jvm.Cond) (q0 : Int64) (h0 : Heap) (n0 : Nat) (Z0 : n0 ≤ h0.size) (hv : -4294967296 ≤ q0.toInt ∧ q0.toInt ≤ 4294967296) :
    MetFree l y_38 (head1 (Jvm.Cond.code y_38 jdk_29_method_30_code 10 (some .long) :: ws) R_5) (fun a U => a = #[(.long q0), (.long 1000000000)] ∧ Z.Warmed39 U.vm ∧ U.heap = h0) (fun _ _ _ _ _ => True) (fun _ U o U' => ∃ v L, o = .returned v ∧ Q29 Z q0 h0 n0 v U'.heap L ∧ FrameEnd U o U' L R_5.cells R_5.slots) := by
  refine MetFree.of_bodySF (Jvm.Free.JP.mathPlain rfl (by decide +kernel)) hisR ?_
  intro p e s m args below meth c s₁ Bd hml0 hP hK
  obtain ⟨rfl, hZ, hh⟩ := hP
  have hx := Bd.exec
  have hby := Bd.bytes
  have hml : c.maxLocals = 10 := hml0
  have hown : s.vm.findClass "java/lang/Math" = some m.cls := findClass_of_methodNamed Bd.named
  have hnm := (name_of_methodNamed Bd.named Bd.method).1
  have X0 : Stand p l e R_5 s m #[(.long q0), (.long 1000000000)] below meth c s₁ [] 0 0 := Stand.of_body Bd
  have e0 : s₁.heap = h0 := by rw [← hh, Bd.state]; rfl
  have N0 := Fr.nil n0
  show Good p e below (fun o U' => ∃ v L, o = .returned v ∧ Q29 Z q0 h0 n0 v U'.heap L ∧ FrameEnd s o U' L R_5.cells R_5.slots) _
  refine Good.back (S' := s₁.setTop (mkF m 0 #[.val (.long q0), .second, .val (.long 1000000000), .second, .unset, .unset, .unset, .unset, .unset, .unset] [])) (fun t k => castTop (own_ef_29 m q0 (1000000000 : Int64)) k) ?_
  show Good p e below _ (s₁.setTop (mkF m 0 (a_JsJsu6 q0 1000000000) []))
  refine Good.back (fun _ k => XS.lloadN X0.here hx rfl (hb hby k29_0.1.1.1) rfl k) ?_
  refine Good.back (fun _ k => XS.lloadN X0.here hx rfl (hb hby k29_0.1.1.2) rfl k) ?_
  refine Good.back (fun _ k => XS.lmul X0.here hx rfl (hb hby k29_0.1.2.1) rfl k) ?_
  refine Good.back (fun _ k => XS.lstore X0.here hx rfl (hb hby k29_0.1.2.2) rfl (l' := (a_JsJsJsu4 q0 1000000000 (q0 * (1000000000 : Int64)))) rfl k) ?_
  refine Good.back (fun _ k => XS.lloadN X0.here hx rfl (hb hby k29_0.2.1.1) rfl k) ?_
  obtain ⟨_, _, ⟨T1, L1, k1, n1⟩, -, X1, ⟨Lc1, hQ1, l1, y1, z1⟩, st1⟩ := Jvm.LawKit.callS X0 hx (y := y_37) hown (mvT hZ (wd hw 177 rfl)) (mvT hZ (wd hw 178 rfl)) (mvT hZ (wd hw 131 rfl)) (mvT hZ (wd hw 179 rfl)) (by decide) (backOf (W := 0) (rm30 l Z a0 hw [] q0  h0 n0 Z0 ) hZ (wd hw 179 rfl) (wd hw 131 rfl) (by decide) (by decide)) (g := (mkF m 6 (a_JsJsJsu4 q0 1000000000 (q0 * (1000000000 : Int64))) [.long q0])) rfl (by rw [hml]; rfl) (argsL := [(.long q0)]) (rest := []) (lenOf own_pd24 rfl) rfl (by show 2 * 0 + _ ≤ _; exact Nat.le_of_eq rfl) (hb hby k29_0.2.1.2) (fun _ _ => ⟨rfl, e0, (by decide : 0 + 0 ≤ _), (by decide : 0 + 0 ≤ _)⟩)
  dsimp only [Pt.U, Pt.locs, Pt.cells, Pt.slots] at X1 l1 y1 z1 st1 hQ1
  subst l1 y1 z1
  obtain ⟨rfl, N1q, eh1⟩ := hQ1
  have N1 := Fr.app N0 N1q
  refine Good.back st1 ?_
  refine Good.back (fun _ k => XS.lstore X1.here hx rfl (hb hby k29_0.2.2.1) rfl (l' := (a_JsJsJsJsuu q0 1000000000 (q0 * (1000000000 : Int64)) (own_labs q0))) rfl k) ?_
  refine Good.back (fun _ k => XS.lloadN X1.here hx rfl (hb hby k29_0.2.2.2) rfl k) ?_
  obtain ⟨_, _, ⟨T2, L2, k2, n2⟩, -, X2, ⟨Lc2, hQ2, l2, y2, z2⟩, st2⟩ := Jvm.LawKit.callS X1 hx (y := y_37) hown (mvT hZ (wd hw 177 rfl)) (mvT hZ (wd hw 178 rfl)) (mvT hZ (wd hw 131 rfl)) (mvT hZ (wd hw 179 rfl)) (by decide) (backOf (W := 0) (rm30 l Z a0 hw [] (1000000000 : Int64)  h0 n0 Z0 ) hZ (wd hw 179 rfl) (wd hw 131 rfl) (by decide) (by decide)) (g := (mkF m 12 (a_JsJsJsJsuu q0 1000000000 (q0 * (1000000000 : Int64)) (own_labs q0)) [.long 1000000000])) rfl (by rw [hml]; rfl) (argsL := [(.long 1000000000)]) (rest := []) (lenOf own_pd24 rfl) rfl (by show 2 * 0 + _ ≤ _; exact Nat.le_of_eq rfl) (hb hby k29_1.1.1.1) (fun _ _ => ⟨rfl, eh1, (by decide : 0 + 0 ≤ _), (by decide : 0 + 0 ≤ _)⟩)
  dsimp only [Pt.U, Pt.locs, Pt.cells, Pt.slots] at X2 l2 y2 z2 st2 hQ2
  subst l2 y2 z2
  obtain ⟨rfl, N2q, eh2⟩ := hQ2
  have N2 := Fr.app N1 N2q
  refine Good.back st2 ?_
  refine Good.back (fun _ k => XS.lstore X2.here hx rfl (hb hby k29_1.1.1.2) rfl (l' := (a_JsJsJsJsJs q0 1000000000 (q0 * (1000000000 : Int64)) (own_labs q0) (own_labs (1000000000 : Int64)))) rfl k) ?_
  refine Good.back (fun _ k => XS.lload X2.here hx rfl (hb hby k29_1.1.2.1) rfl k) ?_
  refine Good.back (fun _ k => XS.lload X2.here hx rfl (hb hby k29_1.1.2.2) rfl k) ?_
  refine Good.back (fun _ k => XS.lor X2.here hx rfl (hb hby k29_1.2.1.1) rfl k) ?_
  refine Good.back (fun _ k => XS.bipush X2.here hx rfl (hb hby k29_1.2.1.2) k) ?_
  show Good p e below _ (T2.setTop (mkF m 24 (a_JsJsJsJsJs q0 1000000000 (q0 * (1000000000 : Int64)) (own_labs q0) (own_labs (1000000000 : Int64))) [.int 31, .long ((own_labs q0) ||| (own_labs (1000000000 : Int64)))]))
  refine Good.back (fun _ k => XS.lushr X2.here hx rfl (hb hby k29_1.2.2.1) rfl k) ?_
  refine Good.back (fun _ k => XS.lconst X2.here hx rfl (hb hby k29_1.2.2.2) k) ?_
  refine Good.back (fun _ k => XS.lcmp X2.here hx rfl (hb hby k29_2.1.1.1) rfl k) ?_
  by_cases hc27_3 : (lcmpW ((((own_labs q0) ||| (own_labs (1000000000 : Int64))).toUInt64 >>> ((31 : Int32) &&& 0x3f).toInt64.toUInt64).toInt64) (0 : Int64)) = (0 : Int32)
  · refine Good.back (fun _ k => XS.ifYes X2.here hx rfl (pc0 := 27) (pc' := 71) rfl (hb hby k29_2.1.1.2) rfl ((if0 _ _).trans (teq hc27_3).1) (by decide) (by decide) k) ?_
    refine Good.back (fun _ k => XS.lload X2.here hx rfl (hb hby k29_4.1) rfl k) ?_
    show Good p e below _ (T2.setTop (mkF m 73 (a_JsJsJsJsJs q0 1000000000 (q0 * (1000000000 : Int64)) (own_labs q0) (own_labs (1000000000 : Int64))) [.long (q0 * (1000000000 : Int64))]))
    obtain ⟨fs4, hr4, hrun4, hended4, hW4, hsame4⟩ := X2.leave (v := some (.long (q0 * (1000000000 : Int64)))) (fun h => by rw [Bd.returns] at h; cases h)
    refine Good.done (retOut X2 hx Bd.returns rfl (Or.inr (Or.inl ⟨rfl, rfl, _, rfl⟩)) (hb hby k29_4.2) hr4) hrun4 hended4 ⟨_, _, rfl, ?_, ⟨_, rfl⟩, hW4, hsame4.mono (by decide) (by decide)⟩
    show Q29 Z q0 h0 n0 _ T2.heap _
    rw [eh2]
    exact ⟨rfl, N2, rfl⟩
  · refine Good.back (fun _ k => XS.ifNo X2.here hx rfl (hb hby k29_2.1.1.2) rfl ((if0 _ _).trans (feq hc27_3).1) k) ?_
    refine Good.back (fun _ k => XS.lloadN X2.here hx rfl (hb hby k29_2.1.2.1) rfl k) ?_
    refine Good.back (fun _ k => XS.lconst X2.here hx rfl (hb hby k29_2.1.2.2) k) ?_
    show Good p e below _ (T2.setTop (mkF m 32 (a_JsJsJsJsJs q0 1000000000 (q0 * (1000000000 : Int64)) (own_labs q0) (own_labs (1000000000 : Int64))) [.long 0, .long 1000000000]))
    refine Good.back (fun _ k => XS.lcmp X2.here hx rfl (hb hby k29_2.2.1.1) rfl k) ?_
    show Good p e below _ (T2.setTop (mkF m 33 (a_JsJsJsJsJs q0 1000000000 (q0 * (1000000000 : Int64)) (own_labs q0) (own_labs (1000000000 : Int64))) [.int (lcmpW (1000000000 : Int64) (0 : Int64))]))
    refine Good.back (fun _ k => XS.ifNo X2.here hx rfl (hb hby k29_2.2.1.2) rfl ((if0 _ _).trans (feq (by decide)).1) k) ?_
    refine Good.back (fun _ k => XS.lload X2.here hx rfl (hb hby k29_2.2.2.1) rfl k) ?_
    refine Good.back (fun _ k => XS.lloadN X2.here hx rfl (hb hby k29_2.2.2.2) rfl k) ?_
    refine Good.back (fun _ k => XS.ldiv X2.here hx rfl (hb hby k29_3.1.1.1) rfl (by decide) k) ?_
    refine Good.back (fun _ k => XS.lloadN X2.here hx rfl (hb hby k29_3.1.1.2) rfl k) ?_
    refine Good.back (fun _ k => XS.lcmp X2.here hx rfl (hb hby k29_3.1.2.1) rfl k) ?_
    show Good p e below _ (T2.setTop (mkF m 42 (a_JsJsJsJsJs q0 1000000000 (q0 * (1000000000 : Int64)) (own_labs q0) (own_labs (1000000000 : Int64))) [.int (lcmpW ((q0 * (1000000000 : Int64)) / (1000000000 : Int64)) q0)]))
    refine Good.back (fun _ k => XS.ifNo X2.here hx rfl (hb hby k29_3.1.2.2) rfl ((if0 _ _).trans (teq ((lw_eq _ _).mpr (own_mulE hv).2)).2) k) ?_
    refine Good.back (fun _ k => XS.lloadN X2.here hx rfl (hb hby k29_3.2.1.1) rfl k) ?_
    refine Good.back (X2.ldc2Long hx hown (mvT hZ (wd hw 282 rfl)) (g := (mkF m 46 (a_JsJsJsJsJs q0 1000000000 (q0 * (1000000000 : Int64)) (own_labs q0) (own_labs (1000000000 : Int64))) [.long q0])) rfl (hb hby k29_3.2.1.2)) ?_
    refine Good.back (fun _ k => XS.lcmp X2.here hx rfl (hb hby k29_3.2.2.1) rfl k) ?_
    show Good p e below _ (T2.setTop (mkF m 50 (a_JsJsJsJsJs q0 1000000000 (q0 * (1000000000 : Int64)) (own_labs q0) (own_labs (1000000000 : Int64))) [.int (lcmpW q0 (-9223372036854775808 : Int64))]))
    refine Good.back (fun _ k => XS.ifYes X2.here hx rfl (pc0 := 50) (pc' := 71) rfl (hb hby k29_3.2.2.2) rfl ((if0 _ _).trans (feq (fun q => by have e := (lw_eq _ _).mp q; rw [e] at hv; exact absurd hv.1 (by decide))).2) (by decide) (by decide) k) ?_
    refine Good.back (fun _ k => XS.lload X2.here hx rfl (hb hby k29_4.1) rfl k) ?_
    show Good p e below _ (T2.setTop (mkF m 73 (a_JsJsJsJsJs q0 1000000000 (q0 * (1000000000 : Int64)) (own_labs q0) (own_labs (1000000000 : Int64))) [.long (q0 * (1000000000 : Int64))]))
    obtain ⟨fs5, hr5, hrun5, hended5, hW5, hsame5⟩ := X2.leave (v := some (.long (q0 * (1000000000 : Int64)))) (fun h => by rw [Bd.returns] at h; cases h)
    refine Good.done (retOut X2 hx Bd.returns rfl (Or.inr (Or.inl ⟨rfl, rfl, _, rfl⟩)) (hb hby k29_4.2) hr5) hrun5 hended5 ⟨_, _, rfl, ?_, ⟨_, rfl⟩, hW5, hsame5.mono (by decide) (by decide)⟩
    show Q29 Z q0 h0 n0 _ T2.heap _
    rw [eh2]
    exact ⟨rfl, N2, rfl⟩
theorem own_pn8 : plainName "com/example/liken/liken/cli/IndexSummary" = true := by first | (simp [plainName, overriddenIn]; done) | decide +kernel
abbrev B1 := prog_3_method_1_code
theorem k1_0 : (own_A B1 0 (.aload_n 0) 1 ∧ own_A B1 1 (.invokespecial 3) 3) ∧ own_A B1 4 .return_ 1 := by decide +kernel
theorem own_ef_1 (m : MethodId) (x0 : Addr) : entryFrame m #[(.ref x0)] 1 = mkF m 0 #[.val (.ref x0)] [] := by first | (simp [entryFrame, mkF, argsToLocals, Value.category]; done) | rfl
def Q1 (Z : State) (r0 : Addr) (h0 : Heap) (n0 : Nat) (v : Option Value) (h : Heap) (L : List Loc) : Prop := v = none ∧ Fr n0 L ∧ h = h0
set_option maxRecDepth 65536 in
set_option maxHeartbeats 40000000 in
theorem rm1 (l : Launch) (Z : State) (a0 : Array Value) (hw : ∀ d ∈ tables_1, d.before a0 Z = true) (ws : List Jvm.Cond) (r0 : Addr) (h0 : Heap) (n0 : Nat) (Z0 : n0 ≤ h0.size)  :
    MetFree l y_39 (head1 (Jvm.Cond.code y_39 prog_3_method_1_code 1 none :: ws) R_15) (fun a U => a = #[(.ref r0)] ∧ Z.Warmed39 U.vm ∧ U.heap = h0) (fun _ _ _ _ _ => True) (fun _ U o U' => ∃ v L, o = .returned v ∧ Q1 Z r0 h0 n0 v U'.heap L ∧ FrameEnd U o U' L R_15.cells R_15.slots) := by
  refine MetFree.of_bodySF (plainFor_of_name own_pn8) hisR ?_
  intro p e s m args below meth c s₁ Bd hml0 hP hK
  obtain ⟨rfl, hZ, hh⟩ := hP
  have hx := Bd.exec
  have hby := Bd.bytes
  have hml : c.maxLocals = 1 := hml0
  have hown : s.vm.findClass "com/example/liken/liken/cli/IndexSummary" = some m.cls := findClass_of_methodNamed Bd.named
  have hnm := (name_of_methodNamed Bd.named Bd.method).1
  have X0 : Stand p l e R_15 s m #[(.ref r0)] below meth c s₁ [] 0 0 := Stand.of_body Bd
  have e0 : s₁.heap = h0 := by rw [← hh, Bd.state]; rfl
  have N0 := Fr.nil n0
  show Good p e below (fun o U' => ∃ v L, o = .returned v ∧ Q1 Z r0 h0 n0 v U'.heap L ∧ FrameEnd s o U' L R_15.cells R_15.slots) _
  refine Good.back (S' := s₁.setTop (mkF m 0 #[.val (.ref r0)] [])) (fun t k => castTop (own_ef_1 m r0) k) ?_
  show Good p e below _ (s₁.setTop (mkF m 0 (a_R r0) []))
  refine Good.back (fun _ k => XS.aloadN X0.here hx rfl (hb hby k1_0.1.1) rfl rfl k) ?_
  obtain ⟨T1, X1, e1, st1⟩ := initO X0 hx hZ hown (wd hw 7 rfl) (wd hw 8 rfl) (wd hw 9 rfl) e0 (g := (mkF m 1 (a_R r0) [.ref r0])) rfl (by rw [hml]; rfl) rfl (hb hby k1_0.1.2) (by decide) (W := 0) (by show 2 * 0 + _ ≤ _; exact Nat.le_of_eq rfl) (by decide)
  refine Good.back st1 ?_
  show Good p e below _ (T1.setTop (mkF m 4 (a_R r0) []))
  obtain ⟨fs2, hr2, hrun2, hended2, hW2, hsame2⟩ := X1.leave (v := none) (fun _ => rfl)
  refine Good.done (X1.returnOut hx Bd.returns (hb hby k1_0.2) hr2) hrun2 hended2 ⟨_, _, rfl, ?_, ⟨_, rfl⟩, hW2, hsame2.mono (by decide) (by decide)⟩
  show Q1 Z r0 h0 n0 _ T1.heap _
  rw [e1]
  exact ⟨rfl, N0, rfl⟩
abbrev B51 := prog_3_method_2_code
theorem k51_0 : ((own_A B51 0 (.aload_n 0) 1 ∧ own_A B51 1 .dup 1) ∧ own_A B51 2 (.getfield 9) 3 ∧ own_A B51 5 (.iload_n 1) 1) ∧ (own_A B51 6 .i2l 1 ∧ own_A B51 7 .ladd 1) ∧ own_A B51 8 (.putfield 9) 3 ∧ own_A B51 11 (.aload_n 0) 1 := by decide +kernel
theorem k51_1 : ((own_A B51 12 .dup 1 ∧ own_A B51 13 (.getfield 13) 3) ∧ own_A B51 16 (.iload_n 2) 1 ∧ own_A B51 17 .i2l 1) ∧ (own_A B51 18 .ladd 1 ∧ own_A B51 19 (.putfield 13) 3) ∧ own_A B51 22 (.aload_n 0) 1 ∧ own_A B51 23 .dup 1 := by decide +kernel
theorem k51_2 : ((own_A B51 24 (.getfield 16) 3 ∧ own_A B51 27 (.iconst 1) 1) ∧ own_A B51 28 .iadd 1) ∧ own_A B51 29 (.putfield 16) 3 ∧ own_A B51 32 .return_ 1 := by decide +kernel
theorem own_ef_51 (m : MethodId) (x0 : Addr) (x1 : Int32) (x2 : Int32) : entryFrame m #[(.ref x0), (.int x1), (.int x2)] 3 = mkF m 0 #[.val (.ref x0), .val (.int x1), .val (.int x2)] [] := by first | (simp [entryFrame, mkF, argsToLocals, Value.category]; done) | rfl
def Q51 (Z : State) (r0 : Addr) (p1 : Int32) (p2 : Int32) (fq : Int64) (lq : Int64) (fi : Int32) (h0 : Heap) (n0 : Nat) (v : Option Value) (h : Heap) (L : List Loc) : Prop := v = none ∧ Fr n0 L ∧ Keep h0 h [r0] ∧ Fld Z h r0 "com/example/liken/liken/cli/IndexSummary" "fragments" "J" (.long (fq + (p1.toInt64))) ∧ Fld Z h r0 "com/example/liken/liken/cli/IndexSummary" "lines" "J" (.long (lq + (p2.toInt64))) ∧ Fld Z h r0 "com/example/liken/liken/cli/IndexSummary" "files" "I" (.int (fi + (1 : Int32))) ∧ Fld Z h r0 "com/example/liken/liken/cli/IndexSummary" "skipped" "I" (.int 0) ∧ Fld Z h r0 "com/example/liken/liken/cli/IndexSummary" "unreadable" "I" (.int 0)
set_option maxRecDepth 65536 in
set_option maxHeartbeats 40000000 in
theorem rm51 (l : Launch) (Z : State) (a0 : Array Value) (hw : ∀ d ∈ tables_1, d.before a0 Z = true) (ws : List Jvm.Cond) (r0 : Addr) (p1 : Int32) (p2 : Int32) (fq : Int64) (lq : Int64) (fi : Int32) (h0 : Heap) (n0 : Nat) (Z0 : n0 ≤ h0.size) (E0 : Exa Z h0 r0 "com/example/liken/liken/cli/IndexSummary") (g0 : n0 ≤ r0) (Fi0 : Fld Z h0 r0 "com/example/liken/liken/cli/IndexSummary" "fragments" "J" (.long fq)) (Fi1 : Fld Z h0 r0 "com/example/liken/liken/cli/IndexSummary" "lines" "J" (.long lq)) (Fi2 : Fld Z h0 r0 "com/example/liken/liken/cli/IndexSummary" "files" "I" (.int fi)) (Fi3 : Fld Z h0 r0 "com/example/liken/liken/cli/IndexSummary" "skipped" "I" (.int 0)) (Fi4 : Fld Z h0 r0 "com/example/liken/liken/cli/IndexSummary" "unreadable" "I" (.int 0)) :
    MetFree l y_40 (head1 (Jvm.Cond.code y_40 prog_3_method_2_code 3 none :: ws) R_0) (fun a U => a = #[(.ref r0), (.int p1), (.int p2)] ∧ Z.Warmed39 U.vm ∧ U.heap = h0) (fun _ _ _ _ _ => True) (fun _ U o U' => ∃ v L, o = .returned v ∧ Q51 Z r0 p1 p2 fq lq fi h0 n0 v U'.heap L ∧ FrameEnd U o U' L R_0.cells R_0.slots) := by
  refine MetFree.of_bodySF (plainFor_of_name own_pn8) hisR ?_
  intro p e s m args below meth c s₁ Bd hml0 hP hK
  obtain ⟨rfl, hZ, hh⟩ := hP
  have hx := Bd.exec
  have hby := Bd.bytes
  have hml : c.maxLocals = 3 := hml0
  have hown : s.vm.findClass "com/example/liken/liken/cli/IndexSummary" = some m.cls := findClass_of_methodNamed Bd.named
  have hnm := (name_of_methodNamed Bd.named Bd.method).1
  have X0 : Stand p l e R_0 s m #[(.ref r0), (.int p1), (.int p2)] below meth c s₁ [] 0 0 := Stand.of_body Bd
  have e0 : s₁.heap = h0 := by rw [← hh, Bd.state]; rfl
  have N0 := Fr.nil n0
  have KR : Keep h0 h0 [r0] := Keep.refl h0 _
  show Good p e below (fun o U' => ∃ v L, o = .returned v ∧ Q51 Z r0 p1 p2 fq lq fi h0 n0 v U'.heap L ∧ FrameEnd s o U' L R_0.cells R_0.slots) _
  refine Good.back (S' := s₁.setTop (mkF m 0 #[.val (.ref r0), .val (.int p1), .val (.int p2)] [])) (fun t k => castTop (own_ef_51 m r0 p1 p2) k) ?_
  show Good p e below _ (s₁.setTop (mkF m 0 (a_RII r0 p1 p2) []))
  refine Good.back (fun _ k => XS.aloadN X0.here hx rfl (hb hby k51_0.1.1.1) rfl rfl k) ?_
  refine Good.back (fun _ k => XS.dup X0.here hx rfl (hb hby k51_0.1.1.2) rfl rfl k) ?_
  obtain ⟨T1, X1, e1, st1⟩ := getF X0 hx hZ hown (host := "") (Or.inl (wd hw 92 rfl)) Via.refl e0 Fi0 (g := (mkF m 2 (a_RII r0 p1 p2) [.ref r0, .ref r0])) rfl rfl (hb hby k51_0.1.2.1)
  refine Good.back st1 ?_
  refine Good.back (fun _ k => XS.iloadN X1.here hx rfl (hb hby k51_0.1.2.2) rfl k) ?_
  refine Good.back (fun _ k => XS.i2l X1.here hx rfl (hb hby k51_0.2.1.1) rfl k) ?_
  refine Good.back (fun _ k => XS.ladd X1.here hx rfl (hb hby k51_0.2.1.2) rfl k) ?_
  obtain ⟨T2, h2, X2, e2, W2, st2⟩ := putF X1 hx hZ hown (host := "") (Or.inl (wd hw 92 rfl)) Via.refl e1 Fi0 E0 (Or.inl (wd hw 93 rfl)) (wd hw 2 rfl) (ty := .long) (by decide) rfl rfl (g := (mkF m 8 (a_RII r0 p1 p2) [.long (fq + (p1.toInt64)), .ref r0])) rfl rfl (hb hby k51_0.2.2.1)
  refine Good.back st2 ?_
  have f_3 : Fld Z h2 r0 "com/example/liken/liken/cli/IndexSummary" "fragments" "J" (.long (fq + (p1.toInt64))) := Fld.same W2 Fi0
  have N2 := Fr.snoc X2 N0 g0
  have Z4 : n0 ≤ h2.size := Nat.le_trans Z0 (Keep.of_wr W2).1
  have K5 : Keep h0 h2 [r0] := KR.wr W2 (Or.inl (List.mem_of_getElem? (i := 0) rfl))
  refine Good.back (fun _ k => XS.aloadN X2.here hx rfl (hb hby k51_0.2.2.2) rfl rfl k) ?_
  refine Good.back (fun _ k => XS.dup X2.here hx rfl (hb hby k51_1.1.1.1) rfl rfl k) ?_
  have f_6 : Fld Z h2 r0 "com/example/liken/liken/cli/IndexSummary" "lines" "J" (.long lq) := Fld.other W2 Fi1 (Or.inr (slot_ne (Or.inl (wd hw 172 rfl)) (Or.inl (wd hw 93 rfl)) (by decide) (t := .long) (t' := .long) (by decide) (by decide)))
  obtain ⟨T7, X7, e7, st7⟩ := getF X2 hx hZ hown (host := "") (Or.inl (wd hw 171 rfl)) Via.refl e2 f_6 (g := (mkF m 13 (a_RII r0 p1 p2) [.ref r0, .ref r0])) rfl rfl (hb hby k51_1.1.1.2)
  refine Good.back st7 ?_
  refine Good.back (fun _ k => XS.iloadN X7.here hx rfl (hb hby k51_1.1.2.1) rfl k) ?_
  refine Good.back (fun _ k => XS.i2l X7.here hx rfl (hb hby k51_1.1.2.2) rfl k) ?_
  refine Good.back (fun _ k => XS.ladd X7.here hx rfl (hb hby k51_1.2.1.1) rfl k) ?_
  have f_8 : Exa Z h2 r0 "com/example/liken/liken/cli/IndexSummary" := Exa.wr W2 E0
  obtain ⟨T9, h9, X9, e9, W9, st9⟩ := putF X7 hx hZ hown (host := "") (Or.inl (wd hw 171 rfl)) Via.refl e7 f_6 f_8 (Or.inl (wd hw 172 rfl)) (wd hw 2 rfl) (ty := .long) (by decide) rfl rfl (g := (mkF m 19 (a_RII r0 p1 p2) [.long (lq + (p2.toInt64)), .ref r0])) rfl rfl (hb hby k51_1.2.1.2)
  refine Good.back st9 ?_
  have f_10 : Fld Z h9 r0 "com/example/liken/liken/cli/IndexSummary" "lines" "J" (.long (lq + (p2.toInt64))) := Fld.same W9 f_6
  have N9 := Fr.snoc X9 N2 g0
  have Z11 : n0 ≤ h9.size := Nat.le_trans Z4 (Keep.of_wr W9).1
  have K12 : Keep h0 h9 [r0] := K5.wr W9 (Or.inl (List.mem_of_getElem? (i := 0) rfl))
  refine Good.back (fun _ k => XS.aloadN X9.here hx rfl (hb hby k51_1.2.2.1) rfl rfl k) ?_
  refine Good.back (fun _ k => XS.dup X9.here hx rfl (hb hby k51_1.2.2.2) rfl rfl k) ?_
  have f_13 : Fld Z h2 r0 "com/example/liken/liken/cli/IndexSummary" "files" "I" (.int fi) := Fld.other W2 Fi2 (Or.inr (slot_ne (Or.inl (wd hw 144 rfl)) (Or.inl (wd hw 93 rfl)) (by decide) (t := .int) (t' := .long) (by decide) (by decide)))
  have f_14 : Fld Z h9 r0 "com/example/liken/liken/cli/IndexSummary" "files" "I" (.int fi) := Fld.other W9 f_13 (Or.inr (slot_ne (Or.inl (wd hw 144 rfl)) (Or.inl (wd hw 172 rfl)) (by decide) (t := .int) (t' := .long) (by decide) (by decide)))
  obtain ⟨T15, X15, e15, st15⟩ := getF X9 hx hZ hown (host := "") (Or.inl (wd hw 143 rfl)) Via.refl e9 f_14 (g := (mkF m 24 (a_RII r0 p1 p2) [.ref r0, .ref r0])) rfl rfl (hb hby k51_2.1.1.1)
  refine Good.back st15 ?_
  refine Good.back (fun _ k => XS.iconst X15.here hx rfl (hb hby k51_2.1.1.2) k) ?_
  refine Good.back (fun _ k => XS.iadd X15.here hx rfl (hb hby k51_2.1.2) rfl k) ?_
  have f_16 : Exa Z h9 r0 "com/example/liken/liken/cli/IndexSummary" := Exa.wr W9 f_8
  obtain ⟨T17, h17, X17, e17, W17, st17⟩ := putF X15 hx hZ hown (host := "") (Or.inl (wd hw 143 rfl)) Via.refl e15 f_14 f_16 (Or.inl (wd hw 144 rfl)) (wd hw 2 rfl) (ty := .int) (by decide) rfl rfl (g := (mkF m 29 (a_RII r0 p1 p2) [.int (fi + (1 : Int32)), .ref r0])) rfl rfl (hb hby k51_2.2.1)
  refine Good.back st17 ?_
  have f_18 : Fld Z h17 r0 "com/example/liken/liken/cli/IndexSummary" "files" "I" (.int (fi + (1 : Int32))) := Fld.same W17 f_14
  have N17 := Fr.snoc X17 N9 g0
  have Z19 : n0 ≤ h17.size := Nat.le_trans Z11 (Keep.of_wr W17).1
  have K20 : Keep h0 h17 [r0] := K12.wr W17 (Or.inl (List.mem_of_getElem? (i := 0) rfl))
  show Good p e below _ (T17.setTop (mkF m 32 (a_RII r0 p1 p2) []))
  obtain ⟨fs21, hr21, hrun21, hended21, hW21, hsame21⟩ := X17.leave (v := none) (fun _ => rfl)
  refine Good.done (X17.returnOut hx Bd.returns (hb hby k51_2.2.2) hr21) hrun21 hended21 ⟨_, _, rfl, ?_, ⟨_, rfl⟩, hW21, hsame21.mono (by decide) (by decide)⟩
  show Q51 Z r0 p1 p2 fq lq fi h0 n0 _ T17.heap _
  rw [e17]
  have f_22 : Fld Z h9 r0 "com/example/liken/liken/cli/IndexSummary" "fragments" "J" (.long (fq + (p1.toInt64))) := Fld.other W9 f_3 (Or.inr (slot_ne (Or.inl (wd hw 93 rfl)) (Or.inl (wd hw 172 rfl)) (by decide) (t := .long) (t' := .long) (by decide) (by decide)))
  have f_23 : Fld Z h17 r0 "com/example/liken/liken/cli/IndexSummary" "fragments" "J" (.long (fq + (p1.toInt64))) := Fld.other W17 f_22 (Or.inr (slot_ne (Or.inl (wd hw 93 rfl)) (Or.inl (wd hw 144 rfl)) (by decide) (t := .long) (t' := .int) (by decide) (by decide)))
  have f_24 : Fld Z h17 r0 "com/example/liken/liken/cli/IndexSummary" "lines" "J" (.long (lq + (p2.toInt64))) := Fld.other W17 f_10 (Or.inr (slot_ne (Or.inl (wd hw 172 rfl)) (Or.inl (wd hw 144 rfl)) (by decide) (t := .long) (t' := .int) (by decide) (by decide)))
  have f_25 : Fld Z h2 r0 "com/example/liken/liken/cli/IndexSummary" "skipped" "I" (.int 0) := Fld.other W2 Fi3 (Or.inr (slot_ne (Or.inl (wd hw 163 rfl)) (Or.inl (wd hw 93 rfl)) (by decide) (t := .int) (t' := .long) (by decide) (by decide)))
  have f_26 : Fld Z h9 r0 "com/example/liken/liken/cli/IndexSummary" "skipped" "I" (.int 0) := Fld.other W9 f_25 (Or.inr (slot_ne (Or.inl (wd hw 163 rfl)) (Or.inl (wd hw 172 rfl)) (by decide) (t := .int) (t' := .long) (by decide) (by decide)))
  have f_27 : Fld Z h17 r0 "com/example/liken/liken/cli/IndexSummary" "skipped" "I" (.int 0) := Fld.other W17 f_26 (Or.inr (slot_ne (Or.inl (wd hw 163 rfl)) (Or.inl (wd hw 144 rfl)) (by decide) (t := .int) (t' := .int) (by decide) (by decide)))
  have f_28 : Fld Z h2 r0 "com/example/liken/liken/cli/IndexSummary" "unreadable" "I" (.int 0) := Fld.other W2 Fi4 (Or.inr (slot_ne (Or.inl (wd hw 165 rfl)) (Or.inl (wd hw 93 rfl)) (by decide) (t := .int) (t' := .long) (by decide) (by decide)))
  have f_29 : Fld Z h9 r0 "com/example/liken/liken/cli/IndexSummary" "unreadable" "I" (.int 0) := Fld.other W9 f_28 (Or.inr (slot_ne (Or.inl (wd hw 165 rfl)) (Or.inl (wd hw 172 rfl)) (by decide) (t := .int) (t' := .long) (by decide) (by decide)))
  have f_30 : Fld Z h17 r0 "com/example/liken/liken/cli/IndexSummary" "unreadable" "I" (.int 0) := Fld.other W17 f_29 (Or.inr (slot_ne (Or.inl (wd hw 165 rfl)) (Or.inl (wd hw 144 rfl)) (by decide) (t := .int) (t' := .int) (by decide) (by decide)))
  exact ⟨rfl, N17, K20, f_23, f_24, f_18, f_27, f_30⟩
def own_EL : List (String × Nat) := [("com/example/liken/liken/cli/IndexSummary", 29), ("com/example/liken/liken/cli/IndexSummary", 38), ("com/example/liken/liken/cli/IndexSummary", 43), ("com/example/liken/liken/cli/IndexSummary", 64), ("com/example/liken/liken/cli/IndexSummary", 71), ("com/example/liken/liken/cli/IndexSummary", 73)]
theorem own_EW {Z : State} {a0 : Array Value} (hw : ∀ d ∈ tables_1, d.before a0 Z = true) : EW Z a0 own_EL := (EW.cons (wd hw 36 rfl) (by decide) (EW.cons (wd hw 119 rfl) (by decide) (EW.cons (wd hw 161 rfl) (by decide) (EW.cons (wd hw 180 rfl) (by decide) (EW.cons (wd hw 195 rfl) (by decide) (EW.cons (wd hw 196 rfl) (by decide) EW.nil))))))
def own_t29 : List Int32 := [105, 110, 100, 101, 120, 101, 100, 32]
def own_t38 : List Int32 := [32, 102, 114, 97, 103, 109, 101, 110, 116, 115, 32, 102, 114, 111, 109, 32]
def own_t43 : List Int32 := [32, 102, 105, 108, 101, 115, 10]
def own_t64 : List Int32 := [101, 108, 97, 112, 115, 101, 100, 32]
def own_t71 : List Int32 := [32, 115, 44, 32]
def own_t73 : List Int32 := [32, 108, 105, 110, 101, 115, 47, 115, 10]
def own_out (fq lq : Int64) (fi : Int32) : List Int32 := (((((((((((([] ++ own_t29) ++ (own_sd fq)) ++ own_t38) ++ [own_d1 fi]) ++ own_t43) ++ own_t64) ++ (own_sd (1 : Int64))) ++ [(46 : Int32)]) ++ (own_sd (0 : Int64))) ++ own_t71) ++ (own_sd lq)) ++ own_t73)
theorem own_pd25 : parseMethodDescriptor "()V" = some ⟨[], none⟩ := by decide +kernel
theorem own_pd26 : parseMethodDescriptor "(Ljava/lang/String;)Ljava/lang/StringBuilder;" = some ⟨[(.object "java/lang/String")], some (.object "java/lang/StringBuilder")⟩ := by decide +kernel
theorem own_pd27 : parseMethodDescriptor "(J)Ljava/lang/StringBuilder;" = some ⟨[.long], some (.object "java/lang/StringBuilder")⟩ := by decide +kernel
theorem own_pd28 : parseMethodDescriptor "(I)Ljava/lang/StringBuilder;" = some ⟨[.int], some (.object "java/lang/StringBuilder")⟩ := by decide +kernel
theorem own_pd29 : parseMethodDescriptor "(JJ)J" = some ⟨[.long, .long], some .long⟩ := by decide +kernel
theorem own_pd30 : parseMethodDescriptor "(C)Ljava/lang/StringBuilder;" = some ⟨[.char], some (.object "java/lang/StringBuilder")⟩ := by decide +kernel
theorem own_pd31 : parseMethodDescriptor "()Ljava/lang/String;" = some ⟨[], some (.object "java/lang/String")⟩ := by decide +kernel
abbrev B3 := prog_3_method_5_code
theorem k3_0 : ((own_A B3 0 (.new 26) 3 ∧ own_A B3 3 .dup 1) ∧ own_A B3 4 (.invokespecial 28) 3 ∧ own_A B3 7 (.astore_n 3) 1) ∧ (own_A B3 8 (.aload_n 3) 1 ∧ own_A B3 9 (.ldc 29) 2) ∧ own_A B3 11 (.invokevirtual 31) 3 ∧ own_A B3 14 (.aload_n 0) 1 := by decide +kernel
theorem k3_1 : ((own_A B3 15 (.getfield 9) 3 ∧ own_A B3 18 (.invokevirtual 35) 3) ∧ own_A B3 21 (.ldc 38) 2 ∧ own_A B3 23 (.invokevirtual 31) 3) ∧ (own_A B3 26 (.aload_n 0) 1 ∧ own_A B3 27 (.getfield 16) 3) ∧ own_A B3 30 (.invokevirtual 40) 3 ∧ own_A B3 33 (.ldc 43) 2 := by decide +kernel
theorem k3_2 : ((own_A B3 35 (.invokevirtual 31) 3 ∧ own_A B3 38 .pop 1) ∧ own_A B3 39 (.aload_n 0) 1 ∧ own_A B3 40 (.getfield 20) 3) ∧ (own_A B3 43 (.ifCond .le 22) 3 ∧ own_A B3 65 (.aload_n 0) 1) ∧ own_A B3 66 (.getfield 23) 3 ∧ own_A B3 69 (.ifCond .le 22) 3 := by decide +kernel
theorem k3_3 : ((own_A B3 91 (.lload_n 1) 1 ∧ own_A B3 92 (.lconst 1) 1) ∧ own_A B3 93 (.invokestatic 49) 3 ∧ own_A B3 96 (.lstore 4) 2) ∧ (own_A B3 98 (.lload 4) 2 ∧ own_A B3 100 (.ldc2_w 55) 3) ∧ own_A B3 103 .ladd 1 ∧ own_A B3 104 (.ldc2_w 57) 3 := by decide +kernel
theorem k3_4 : ((own_A B3 107 .ldiv 1 ∧ own_A B3 108 (.lstore 6) 2) ∧ own_A B3 110 (.aload_n 0) 1 ∧ own_A B3 111 (.getfield 13) 3) ∧ (own_A B3 114 (.ldc2_w 59) 3 ∧ own_A B3 117 (.invokestatic 61) 3) ∧ own_A B3 120 (.lload 4) 2 ∧ own_A B3 122 .ldiv 1 := by decide +kernel
theorem k3_5 : ((own_A B3 123 (.lstore 8) 2 ∧ own_A B3 125 (.aload_n 3) 1) ∧ own_A B3 126 (.ldc 64) 2 ∧ own_A B3 128 (.invokevirtual 31) 3) ∧ (own_A B3 131 (.lload 6) 2 ∧ own_A B3 133 (.ldc2_w 66) 3) ∧ own_A B3 136 .ldiv 1 ∧ own_A B3 137 (.invokevirtual 35) 3 := by decide +kernel
theorem k3_6 : ((own_A B3 140 (.bipush 46) 2 ∧ own_A B3 142 (.invokevirtual 68) 3) ∧ own_A B3 145 (.lload 6) 2 ∧ own_A B3 147 (.ldc2_w 66) 3) ∧ (own_A B3 150 .lrem 1 ∧ own_A B3 151 (.invokevirtual 35) 3) ∧ own_A B3 154 (.ldc 71) 2 ∧ own_A B3 156 (.invokevirtual 31) 3 := by decide +kernel
theorem k3_7 : ((own_A B3 159 (.lload 8) 2 ∧ own_A B3 161 (.invokevirtual 35) 3) ∧ own_A B3 164 (.ldc 73) 2 ∧ own_A B3 166 (.invokevirtual 31) 3) ∧ (own_A B3 169 .pop 1 ∧ own_A B3 170 (.aload_n 3) 1) ∧ own_A B3 171 (.invokevirtual 75) 3 ∧ own_A B3 174 .areturn 1 := by decide +kernel
theorem own_ef_3 (m : MethodId) (x0 : Addr) (x1 : Int64) : entryFrame m #[(.ref x0), (.long x1)] 10 = mkF m 0 #[.val (.ref x0), .val (.long x1), .second, .unset, .unset, .unset, .unset, .unset, .unset, .unset] [] := by first | (simp [entryFrame, mkF, argsToLocals, Value.category]; done) | rfl
def Q3 (Z : State) (r0 : Addr) (cs : Int32) (fq : Int64) (lq : Int64) (fi : Int32) (d1 : Addr) (d2 : Addr) (kd1 : ClassId) (kd2 : ClassId) (h0 : Heap) (n0 : Nat) (v : Option Value) (h : Heap) (L : List Loc) : Prop := ∃ (sr : Addr) (a2 : Addr) (k2 : ClassId) (z2 : Int32), v = some (.ref sr) ∧ Fr n0 L ∧ Keep h0 h [] ∧ h0.size ≤ sr ∧ Exa Z h sr "java/lang/String" ∧ Fld Z h sr "java/lang/String" "value" "[B" (.ref a2) ∧ Fld Z h sr "java/lang/String" "coder" "B" (.int 0) ∧ h0.size ≤ a2 ∧ Arv Z h a2 k2 .byte z2 (own_v (own_out fq lq fi)) (.int 0) ∧ (z2.toInt = ((own_out fq lq fi).length : Int))
set_option maxRecDepth 65536 in
set_option maxHeartbeats 40000000 in
theorem rm3 (l : Launch) (Z : State) (a0 : Array Value) (hw : ∀ d ∈ tables_1, d.before a0 Z = true) (ws : List Jvm.Cond) (r0 : Addr) (cs : Int32) (fq : Int64) (lq : Int64) (fi : Int32) (d1 : Addr) (d2 : Addr) (kd1 : ClassId) (kd2 : ClassId) (h0 : Heap) (n0 : Nat) (Z0 : n0 ≤ h0.size) (S_cs : Sta Z h0 "java/lang/String" "COMPACT_STRINGS" "Z" (.int cs)) (hcs : ¬ (cs = (0 : Int32))) (E0 : Exa Z h0 r0 "com/example/liken/liken/cli/IndexSummary") (Fi0 : Fld Z h0 r0 "com/example/liken/liken/cli/IndexSummary" "fragments" "J" (.long fq)) (Fi1 : Fld Z h0 r0 "com/example/liken/liken/cli/IndexSummary" "lines" "J" (.long lq)) (Fi2 : Fld Z h0 r0 "com/example/liken/liken/cli/IndexSummary" "files" "I" (.int fi)) (Fi3 : Fld Z h0 r0 "com/example/liken/liken/cli/IndexSummary" "skipped" "I" (.int 0)) (Fi4 : Fld Z h0 r0 "com/example/liken/liken/cli/IndexSummary" "unreadable" "I" (.int 0)) (hvf : -4294967296 ≤ fq.toInt ∧ fq.toInt ≤ 4294967296) (hvl : -4294967296 ≤ lq.toInt ∧ lq.toInt ≤ 4294967296) (hd_ : 0 ≤ fi.toInt ∧ fi.toInt ≤ 9) (S_d1 : Sta Z h0 "java/lang/Integer" "DigitOnes" "[B" (.ref d1)) (S_d2 : Sta Z h0 "java/lang/Integer" "DigitTens" "[B" (.ref d2)) (V_d1 : Arv Z h0 d1 kd1 .byte (100 : Int32) own_ones (.int 0)) (V_d2 : Arv Z h0 d2 kd2 .byte (100 : Int32) own_tens (.int 0)) :
    MetFree l y_41 (head1 (Jvm.Cond.code y_41 prog_3_method_5_code 10 (some (.object "java/lang/String")) :: ws) R_20) (fun a U => a = #[(.ref r0), (.long 1000000000)] ∧ Z.Warmed39 U.vm ∧ U.heap = h0 ∧ CHv Z own_EL U.vm h0) (fun _ _ _ _ _ => True) (fun _ U o U' => ∃ v L, o = .returned v ∧ Q3 Z r0 cs fq lq fi d1 d2 kd1 kd2 h0 n0 v U'.heap L ∧ CHr Z own_EL U.vm U.heap U'.vm U'.heap ∧ ReturnedEndW U o U' L R_20.cells R_20.slots) := by
  refine MetFree.of_bodySF (plainFor_of_name own_pn8) hisR ?_
  intro p e s m args below meth c s₁ Bd hml0 hP hK
  obtain ⟨rfl, hZ, hh, HV⟩ := hP
  have hx := Bd.exec
  have hby := Bd.bytes
  have hml : c.maxLocals = 10 := hml0
  have hown : s.vm.findClass "com/example/liken/liken/cli/IndexSummary" = some m.cls := findClass_of_methodNamed Bd.named
  have hnm := (name_of_methodNamed Bd.named Bd.method).1
  have X0 : Stand p l e R_20 s m #[(.ref r0), (.long 1000000000)] below meth c s₁ [] 0 0 := Stand.of_body Bd
  have e0 : s₁.heap = h0 := by rw [← hh, Bd.state]; rfl
  have N0 := Fr.nil n0
  have X0c : Stand p l e R_20 (s.setVm s.vm) m #[(.ref r0), (.long 1000000000)] below meth c s₁ [] 0 0 := X0
  have hS0 : s.Since s.vm 0 := (State.WarmedH.refl s).since 0
  have hk0 : 0 ≤ h0.size := Nat.zero_le _
  have hZ0 : Z.Warmed39 (s.setVm s.vm).vm := hZ
  have hown0 : (s.setVm s.vm).vm.findClass "com/example/liken/liken/cli/IndexSummary" = some m.cls := hown
  have C0 : CHr Z own_EL s.vm h0 s.vm h0 := CHr.refl HV
  have KR : Keep h0 h0 [] := Keep.refl h0 _
  show Good p e below (fun o U' => ∃ v L, o = .returned v ∧ Q3 Z r0 cs fq lq fi d1 d2 kd1 kd2 h0 n0 v U'.heap L ∧ CHr Z own_EL s.vm s.heap U'.vm U'.heap ∧ ReturnedEndW s o U' L R_20.cells R_20.slots) _
  refine Good.back (S' := s₁.setTop (mkF m 0 #[.val (.ref r0), .val (.long 1000000000), .second, .unset, .unset, .unset, .unset, .unset, .unset, .unset] [])) (fun t k => castTop (own_ef_3 m r0 (1000000000 : Int64)) k) ?_
  show Good p e below _ (s₁.setTop (mkF m 0 (a_RJsu7 r0 1000000000) []))
  obtain ⟨T1, h1, X1, e1, E1, A1, D1, -, st1⟩ := newO X0c hx hZ0 hown0 (wd hw 16 rfl) (wd hw 17 rfl) (wd hw 18 rfl) e0 (g := (mkF m 0 (a_RJsu7 r0 1000000000) [])) rfl (hb hby k3_0.1.1.1) (by decide) (by decide)
  obtain ⟨b1, g1⟩ : ∃ z, z = h0.size := ⟨_, rfl⟩
  rw [← g1] at A1 D1 st1
  refine Good.back st1 ?_
  have g_b1 : n0 ≤ b1 := Nat.le_trans Z0 (Nat.le_of_eq g1.symm)
  have sz_b1 : h0.size ≤ b1 := Nat.le_trans KR.1 (Nat.le_of_eq g1.symm)
  have Z2 : n0 ≤ h1.size := Nat.le_trans Z0 E1.1
  have hk3 := Nat.le_trans hk0 E1.1
  have K4 : Keep h0 h1 [] := KR.ext E1
  have f_5 : Exa Z h1 b1 "java/lang/StringBuilder" := A1
  have f_6 : Fld Z h1 b1 "java/lang/AbstractStringBuilder" "value" "[B" .null := D1 (Or.inl (wd hw 33 rfl)) (ty := (.array .byte)) (by decide)
  have f_7 : Fld Z h1 b1 "java/lang/AbstractStringBuilder" "coder" "B" (.int 0) := D1 (Or.inl (wd hw 35 rfl)) (ty := .byte) (by decide)
  have f_8 : Fld Z h1 b1 "java/lang/AbstractStringBuilder" "count" "I" (.int 0) := D1 (Or.inl (wd hw 66 rfl)) (ty := .int) (by decide)
  refine Good.back (fun _ k => XS.dup X1.here hx rfl (hb hby k3_0.1.1.2) rfl rfl k) ?_
  have f_10 := Sta.ext E1 S_cs
  obtain ⟨_, _, ⟨T9, L9, k9, n9⟩, -, X9, ⟨Lc9, hQ9, l9, y9, z9⟩, st9⟩ := X1.specialBack hx (y := y_26) rfl hown0 (mvT hZ0 (wd hw 19 rfl)) (mvT hZ0 (wd hw 20 rfl)) (mvT hZ0 (wd hw 21 rfl)) (by decide) (backOf (W := 1) (rm4 l Z a0 hw [] b1 cs h1 n0 Z2 f_10 (hcs) f_5 g_b1 f_6 f_7 f_8) hZ0 (wd hw 21 rfl) (wd hw 18 rfl) (by decide) (by decide)) (g := (mkF m 4 (a_RJsu7 r0 1000000000) [.ref b1, .ref b1])) rfl (by rw [hml]; rfl) (Steps.refl _) (a := b1) (argsL := []) (rest := [(.ref b1)]) (lenOf own_pd25 rfl) rfl (by show 2 * 0 + _ ≤ _; exact Nat.le_of_eq rfl) (hb hby k3_0.1.2.1) (fun _ _ => ⟨rfl, e1, (by decide : 1 + 1 ≤ _), (by decide : 4 + 16 ≤ _)⟩)
  dsimp only [Pt.U, Pt.locs, Pt.cells, Pt.slots] at X9 l9 y9 z9 st9 hQ9
  subst l9 y9 z9
  obtain ⟨a2_9, k2_9, rfl, N9q, Kq9, o9_0, o9_1, o9_2, o9_3, o9_4, o9_5⟩ := hQ9
  have N9 := Fr.app N0 N9q
  have Z11 : n0 ≤ T9.heap.size := Nat.le_trans Z2 Kq9.1
  have hk12 := Nat.le_trans hk3 Kq9.1
  have K13 : Keep h0 T9.heap [] := K4.trans Kq9 (allS (Or.inr sz_b1) all0)
  have g_a2_9 : n0 ≤ a2_9 := Nat.le_trans Z2 o9_0
  have sz_a2_9 : h0.size ≤ a2_9 := Nat.le_trans K4.1 o9_0
  refine Good.back (fun _ k => st9.trans k) ?_
  show Good p e below _ (T9.setTop (mkF m 7 (a_RJsu7 r0 1000000000) [.ref b1]))
  refine Good.back (fun _ k => XS.astoreN X9.here hx rfl (hb hby k3_0.1.2.2) rfl rfl (l' := (a_RJsRu6 r0 1000000000 b1)) rfl k) ?_
  refine Good.back (fun _ k => XS.aloadN X9.here hx rfl (hb hby k3_0.2.1.1) rfl rfl k) ?_
  have C14 := C0.trans (CHr.ext E1 C0.1)
  have Sf16 : Safe Z own_EL s.vm _ a2_9 := Safe.new o9_0
  have C15 := C14.trans (CHr.keep Kq9 (sfS (Safe.exa hZ0.alike f_5 (by decide) (by decide)) sf0) C14.1)
  have Sf17 := Safe.keep Kq9 (sfS (Safe.exa hZ0.alike f_5 (by decide) (by decide)) sf0) C14.1 Sf16
  obtain ⟨a18, T18, h18, kc18, bl18, kl18, X18, e18, E18, hS18, hk18, hZ18, hown18, q18E, q18C, q18V, q18A, -, -, Cc18, -, -, st18⟩ := ldcCH X9 hx hZ0 hown0 (wd hw 36 rfl) (own_wS hw) rfl hS0 hk12 (own_EW hw) (List.mem_of_getElem? (i := 0) rfl) C15.1 (vs := [(.int 105), (.int 110), (.int 100), (.int 101), (.int 120), (.int 101), (.int 100), (.int 32)]) (z := (8 : Int32)) ⟨by decide, by decide⟩ (by decide) (by decide) (g := (mkF m 9 (a_RJsRu6 r0 1000000000 b1) [.ref b1])) rfl (hb hby k3_0.2.1.2) (n := 32) (by decide +kernel) (by decide) (by decide) (by decide)
  refine Good.back st18 ?_
  have C18 := C15.trans Cc18
  have Sf18 := CHr.safe Cc18 o9_2.lt Sf17
  have Z19 : n0 ≤ h18.size := Nat.le_trans Z11 E18.1
  have hk20 := Nat.le_trans hk12 E18.1
  have K21 : Keep h0 h18 [] := K13.ext E18
  have f_23 := own_staKeep f_10 Kq9 (allS (own_plainE f_5) all0)
  have f_24 := Sta.ext E18 f_23
  have f_25 := Exa.keep f_5 Kq9
  have f_26 := Exa.ext E18 f_25
  have f_27 := Fld.ext E18 o9_4
  have f_28 := Fld.ext E18 o9_5
  have f_29 := Fld.ext E18 o9_3
  have f_30 := Exa.ext E18 o9_1
  have f_31 := Arv.ext o9_2 E18
  obtain ⟨cq22, kq22, q22a, q22b, q22c⟩ := isOf hZ18 e18 f_26
  obtain ⟨_, _, ⟨T22, L22, k22, n22⟩, -, X22, ⟨Lc22, hQ22, l22, y22, z22⟩, st22⟩ := X18.virtualBack hx (y := y_12) (z := y_12) hown18 (mvT hZ18 (wd hw 42 rfl)) (mvT hZ18 (wd hw 43 rfl)) (notFace_of_selects (args := #[]) (mvT hZ18 (wd hw 45 rfl))) (mvT hZ18 (wd hw 45 rfl)) (mvT hZ18 (wd hw 44 rfl)) (by decide) (backOf (W := 0) (rm6 l Z a0 hw [] b1 a18 cs bl18 kl18 (8 : Int32) own_t29 a2_9 k2_9 (16 : Int32) (0 : Int32) [] h18 n0 Z19 f_24 (hcs) f_26 g_b1 f_27 f_28 f_29 f_30 f_31 g_a2_9 (by first | assumption | decide) (by first | assumption | decide) q18E q18V q18C q18A (rfl) (by have s1 := own_sdLen hvf; have s2 := own_sdLen hvl; have l9 : (own_t29).length = 8 := rfl; simp only [List.length_nil]; omega)) hZ18 (wd hw 46 rfl) (wd hw 18 rfl) (by decide) (by decide)) q22a q22c (g := (mkF m 11 (a_RJsRu6 r0 1000000000 b1) [.ref a18, .ref b1])) rfl (by rw [hml]; rfl) (Steps.refl _) (argsL := [(.ref a18)]) (rest := []) (lenOf own_pd26 rfl) rfl (by show 2 * 0 + _ ≤ _; exact Nat.le_of_eq rfl) (hb hby k3_0.2.2.1) (fun _ _ => ⟨rfl, e18, (by decide : 4 + 1 ≤ _), (by decide : 56 + 200 ≤ _)⟩)
  dsimp only [Pt.U, Pt.locs, Pt.cells, Pt.slots] at X22 l22 y22 z22 st22 hQ22
  subst l22 y22 z22
  obtain ⟨a2_22, k2_22, z2_22, c2_22, rfl, N22q, Kq22, o22_0, o22_1, o22_2, o22_3, o22_4, o22_5, o22_6, o22_7⟩ := hQ22
  have N22 := Fr.app N9 N22q
  have Z32 : n0 ≤ T22.heap.size := Nat.le_trans Z19 Kq22.1
  have hk33 := Nat.le_trans hk18 Kq22.1
  have K34 : Keep h0 T22.heap [] := K21.trans Kq22 (allS (Or.inr sz_b1) (allS (Or.inr sz_a2_9) all0))
  have g_a2_22 : n0 ≤ a2_22 := own_rel o22_0 g_a2_9 Z19
  have sz_a2_22 : h0.size ≤ a2_22 := own_rel o22_0 sz_a2_9 K21.1
  refine Good.back (fun _ k => st22.trans k) ?_
  have hl1 : (([] : List Int32) ++ own_t29).length = 0 + 8 := by rw [List.length_append, show (own_t29).length = 8 from rfl]; rfl
  obtain ⟨bs1, eb1⟩ : ∃ z, z = [] ++ own_t29 := ⟨_, rfl⟩
  rw [← eb1] at o22_5 o22_6 o22_7 hl1
  refine Good.back (fun _ k => XS.aloadN X22.here hx rfl (hb hby k3_0.2.2.2) rfl rfl k) ?_
  have f_35 := Fld.ext E1 Fi0
  have ne_r0_b1_37 : r0 ≠ b1 := Nat.ne_of_lt (Nat.lt_of_lt_of_le Fi4.lt (Nat.le_of_eq g1.symm))
  have f_36 := Fld.keep f_35 Kq9 (ninS ne_r0_b1_37 nin0)
  have f_38 := Fld.ext E18 f_36
  have f_40 := Fld.ext E1 Fi4
  have ne_r0_a2_9_41 : r0 ≠ a2_9 := Nat.ne_of_lt (Nat.lt_of_lt_of_le f_40.lt o9_0)
  have f_39 := Fld.keep f_38 Kq22 (ninS ne_r0_b1_37 (ninS ne_r0_a2_9_41 nin0))
  obtain ⟨T42, X42, e42, st42⟩ := getF X22 hx hZ18 hown18 (host := "") (Or.inl (wd hw 92 rfl)) Via.refl rfl f_39 (g := (mkF m 15 (a_RJsRu6 r0 1000000000 b1) [.ref r0, .ref b1])) rfl rfl (hb hby k3_1.1.1.1)
  refine Good.back st42 ?_
  have f_44 := own_staKeep f_24 Kq22 (allS (own_plainE f_26) (allS (own_plainV f_31) all0))
  have f_45 := Exa.keep f_26 Kq22
  have f_46 := Sta.ext E1 S_d1
  have f_47 := own_staKeep f_46 Kq9 (allS (own_plainE f_5) all0)
  have f_48 := Sta.ext E18 f_47
  have f_49 := own_staKeep f_48 Kq22 (allS (own_plainE f_26) (allS (own_plainV f_31) all0))
  have f_50 := Sta.ext E1 S_d2
  have f_51 := own_staKeep f_50 Kq9 (allS (own_plainE f_5) all0)
  have f_52 := Sta.ext E18 f_51
  have f_53 := own_staKeep f_52 Kq22 (allS (own_plainE f_26) (allS (own_plainV f_31) all0))
  have f_54 := Arv.ext V_d1 E1
  have ne_d1_b1_56 : d1 ≠ b1 := Nat.ne_of_lt (Nat.lt_of_lt_of_le V_d1.lt (Nat.le_of_eq g1.symm))
  have f_55 := Arv.keep f_54 Kq9 (ninS ne_d1_b1_56 nin0)
  have f_57 := Arv.ext f_55 E18
  have f_59 := Arv.ext V_d1 E1
  have ne_d1_a2_9_60 : d1 ≠ a2_9 := Nat.ne_of_lt (Nat.lt_of_lt_of_le f_59.lt o9_0)
  have f_58 := Arv.keep f_57 Kq22 (ninS ne_d1_b1_56 (ninS ne_d1_a2_9_60 nin0))
  have f_61 := Arv.ext V_d2 E1
  have ne_d2_b1_63 : d2 ≠ b1 := Nat.ne_of_lt (Nat.lt_of_lt_of_le V_d2.lt (Nat.le_of_eq g1.symm))
  have f_62 := Arv.keep f_61 Kq9 (ninS ne_d2_b1_63 nin0)
  have f_64 := Arv.ext f_62 E18
  have f_66 := Arv.ext V_d2 E1
  have ne_d2_a2_9_67 : d2 ≠ a2_9 := Nat.ne_of_lt (Nat.lt_of_lt_of_le f_66.lt o9_0)
  have f_65 := Arv.keep f_64 Kq22 (ninS ne_d2_b1_63 (ninS ne_d2_a2_9_67 nin0))
  have ne_d1_a2_22_68 : d1 ≠ a2_22 := Nat.ne_of_lt (Nat.lt_of_lt_of_le V_d1.lt sz_a2_22)
  have ne_d2_a2_22_69 : d2 ≠ a2_22 := Nat.ne_of_lt (Nat.lt_of_lt_of_le V_d2.lt sz_a2_22)
  obtain ⟨cq43, kq43, q43a, q43b, q43c⟩ := isOf hZ18 e42 f_45
  obtain ⟨_, _, ⟨T43, L43, k43, n43⟩, -, X43, ⟨Lc43, hQ43, l43, y43, z43⟩, st43⟩ := X42.virtualBack hx (y := y_17) (z := y_17) hown18 (mvT hZ18 (wd hw 94 rfl)) (mvT hZ18 (wd hw 95 rfl)) (notFace_of_selects (args := #[]) (mvT hZ18 (wd hw 97 rfl))) (mvT hZ18 (wd hw 97 rfl)) (mvT hZ18 (wd hw 96 rfl)) (by decide) (backOf (W := 0) (rm14 l Z a0 hw [] b1 fq cs a2_22 k2_22 z2_22 c2_22 bs1 d1 d2 kd1 kd2 T22.heap n0 Z32 f_44 (hcs) f_45 g_b1 o22_1 o22_2 o22_3 o22_4 o22_5 g_a2_22 (by first | assumption | decide) (by first | assumption | decide) (hvf) f_49 f_53 f_58 f_65 ne_d1_a2_22_68 ne_d2_a2_22_69 (by have s1 := own_sdLen hvf; have s2 := own_sdLen hvl; have l9 : ((own_sd fq)).length = (own_sd fq).length := rfl; omega)) hZ18 (wd hw 98 rfl) (wd hw 18 rfl) (by decide) (by decide)) q43a q43c (g := (mkF m 18 (a_RJsRu6 r0 1000000000 b1) [.long fq, .ref b1])) rfl (by rw [hml]; rfl) (Steps.refl _) (argsL := [(.long fq)]) (rest := []) (lenOf own_pd27 rfl) rfl (by show 2 * 0 + _ ≤ _; exact Nat.le_of_eq rfl) (hb hby k3_1.1.1.2) (fun _ _ => ⟨rfl, e42, (by decide : 5 + 1 ≤ _), (by decide : 256 + 200 ≤ _)⟩)
  dsimp only [Pt.U, Pt.locs, Pt.cells, Pt.slots] at X43 l43 y43 z43 st43 hQ43
  subst l43 y43 z43
  obtain ⟨a2_43, k2_43, z2_43, c2_43, rfl, N43q, Kq43, o43_0, o43_1, o43_2, o43_3, o43_4, o43_5, o43_6, o43_7⟩ := hQ43
  have N43 := Fr.app N22 N43q
  have Z70 : n0 ≤ T43.heap.size := Nat.le_trans Z32 Kq43.1
  have hk71 := Nat.le_trans hk33 Kq43.1
  have K72 : Keep h0 T43.heap [] := K34.trans Kq43 (allS (Or.inr sz_b1) (allS (Or.inr sz_a2_22) all0))
  have g_a2_43 : n0 ≤ a2_43 := own_rel o43_0 g_a2_22 Z32
  have sz_a2_43 : h0.size ≤ a2_43 := own_rel o43_0 sz_a2_22 K34.1
  have f_73 := Arv.ext V_d1 E1
  have f_74 := Arv.keep f_73 Kq9 (ninS ne_d1_b1_56 nin0)
  have f_75 := Arv.ext f_74 E18
  have f_76 := Arv.keep f_75 Kq22 (ninS ne_d1_b1_56 (ninS ne_d1_a2_9_60 nin0))
  have ne_d1_a2_43 : d1 ≠ a2_43 := own_neRel o43_0 ne_d1_a2_22_68 f_76.lt
  have f_77 := Arv.ext V_d2 E1
  have f_78 := Arv.keep f_77 Kq9 (ninS ne_d2_b1_63 nin0)
  have f_79 := Arv.ext f_78 E18
  have f_80 := Arv.keep f_79 Kq22 (ninS ne_d2_b1_63 (ninS ne_d2_a2_9_67 nin0))
  have ne_d2_a2_43 : d2 ≠ a2_43 := own_neRel o43_0 ne_d2_a2_22_69 f_80.lt
  refine Good.back (fun _ k => st43.trans k) ?_
  have hl2 : (bs1 ++ (own_sd fq)).length = bs1.length + (own_sd fq).length := by rw [List.length_append, show ((own_sd fq)).length = (own_sd fq).length from rfl]
  obtain ⟨bs2, eb2⟩ : ∃ z, z = bs1 ++ (own_sd fq) := ⟨_, rfl⟩
  rw [← eb2] at o43_5 o43_6 o43_7 hl2
  have Sf82 := own_relS o22_0 Sf18
  have C81 := C18.trans (CHr.keep Kq22 (sfS (Safe.exa hZ18.alike f_26 (by decide) (by decide)) (sfS Sf18 sf0)) C18.1)
  have Sf83 := Safe.keep Kq22 (sfS (Safe.exa hZ18.alike f_26 (by decide) (by decide)) (sfS Sf18 sf0)) C18.1 Sf82
  have Sf85 := own_relS o43_0 Sf83
  have C84 := C81.trans (CHr.keep Kq43 (sfS (Safe.exa hZ18.alike f_45 (by decide) (by decide)) (sfS Sf83 sf0)) C81.1)
  have Sf86 := Safe.keep Kq43 (sfS (Safe.exa hZ18.alike f_45 (by decide) (by decide)) (sfS Sf83 sf0)) C81.1 Sf85
  obtain ⟨a87, T87, h87, kc87, bl87, kl87, X87, e87, E87, hS87, hk87, hZ87, hown87, q87E, q87C, q87V, q87A, -, -, Cc87, -, -, st87⟩ := ldcCH X43 hx hZ18 hown18 (wd hw 119 rfl) (own_wS hw) rfl hS18 hk71 (own_EW hw) (List.mem_of_getElem? (i := 1) rfl) C84.1 (vs := [(.int 32), (.int 102), (.int 114), (.int 97), (.int 103), (.int 109), (.int 101), (.int 110), (.int 116), (.int 115), (.int 32), (.int 102), (.int 114), (.int 111), (.int 109), (.int 32)]) (z := (16 : Int32)) ⟨by decide, by decide⟩ (by decide) (by decide) (g := (mkF m 21 (a_RJsRu6 r0 1000000000 b1) [.ref b1])) rfl (hb hby k3_1.1.2.1) (n := 64) (by decide +kernel) (by decide) (by decide) (by decide)
  refine Good.back st87 ?_
  have C87 := C84.trans Cc87
  have Sf87 := CHr.safe Cc87 o43_5.lt Sf86
  have Z88 : n0 ≤ h87.size := Nat.le_trans Z70 E87.1
  have hk89 := Nat.le_trans hk71 E87.1
  have K90 : Keep h0 h87 [] := K72.ext E87
  have f_92 := own_staKeep f_44 Kq43 (allS (own_plainE f_45) (allS (own_plainV o22_5) all0))
  have f_93 := Sta.ext E87 f_92
  have f_94 := Exa.keep f_45 Kq43
  have f_95 := Exa.ext E87 f_94
  have f_96 := Fld.ext E87 o43_1
  have f_97 := Fld.ext E87 o43_2
  have f_98 := Fld.ext E87 o43_3
  have f_99 := Exa.ext E87 o43_4
  have f_100 := Arv.ext o43_5 E87
  obtain ⟨cq91, kq91, q91a, q91b, q91c⟩ := isOf hZ87 e87 f_95
  obtain ⟨_, _, ⟨T91, L91, k91, n91⟩, -, X91, ⟨Lc91, hQ91, l91, y91, z91⟩, st91⟩ := X87.virtualBack hx (y := y_12) (z := y_12) hown87 (mvT hZ87 (wd hw 42 rfl)) (mvT hZ87 (wd hw 43 rfl)) (notFace_of_selects (args := #[]) (mvT hZ87 (wd hw 45 rfl))) (mvT hZ87 (wd hw 45 rfl)) (mvT hZ87 (wd hw 44 rfl)) (by decide) (backOf (W := 0) (rm6 l Z a0 hw [] b1 a87 cs bl87 kl87 (16 : Int32) own_t38 a2_43 k2_43 z2_43 c2_43 bs2 h87 n0 Z88 f_93 (hcs) f_95 g_b1 f_96 f_97 f_98 f_99 f_100 g_a2_43 (by first | assumption | decide) (by first | assumption | decide) q87E q87V q87C q87A (rfl) (by have s1 := own_sdLen hvf; have s2 := own_sdLen hvl; have l9 : (own_t38).length = 16 := rfl; omega)) hZ87 (wd hw 46 rfl) (wd hw 18 rfl) (by decide) (by decide)) q91a q91c (g := (mkF m 23 (a_RJsRu6 r0 1000000000 b1) [.ref a87, .ref b1])) rfl (by rw [hml]; rfl) (Steps.refl _) (argsL := [(.ref a87)]) (rest := []) (lenOf own_pd26 rfl) rfl (by show 2 * 0 + _ ≤ _; exact Nat.le_of_eq rfl) (hb hby k3_1.1.2.2) (fun _ _ => ⟨rfl, e87, (by decide : 8 + 1 ≤ _), (by decide : 524 + 200 ≤ _)⟩)
  dsimp only [Pt.U, Pt.locs, Pt.cells, Pt.slots] at X91 l91 y91 z91 st91 hQ91
  subst l91 y91 z91
  obtain ⟨a2_91, k2_91, z2_91, c2_91, rfl, N91q, Kq91, o91_0, o91_1, o91_2, o91_3, o91_4, o91_5, o91_6, o91_7⟩ := hQ91
  have N91 := Fr.app N43 N91q
  have Z101 : n0 ≤ T91.heap.size := Nat.le_trans Z88 Kq91.1
  have hk102 := Nat.le_trans hk87 Kq91.1
  have K103 : Keep h0 T91.heap [] := K90.trans Kq91 (allS (Or.inr sz_b1) (allS (Or.inr sz_a2_43) all0))
  have g_a2_91 : n0 ≤ a2_91 := own_rel o91_0 g_a2_43 Z88
  have sz_a2_91 : h0.size ≤ a2_91 := own_rel o91_0 sz_a2_43 K90.1
  have f_104 := Arv.ext V_d1 E1
  have f_105 := Arv.keep f_104 Kq9 (ninS ne_d1_b1_56 nin0)
  have f_106 := Arv.ext f_105 E18
  have f_107 := Arv.keep f_106 Kq22 (ninS ne_d1_b1_56 (ninS ne_d1_a2_9_60 nin0))
  have f_108 := Arv.keep f_107 Kq43 (ninS ne_d1_b1_56 (ninS ne_d1_a2_22_68 nin0))
  have f_109 := Arv.ext f_108 E87
  have ne_d1_a2_91 : d1 ≠ a2_91 := own_neRel o91_0 ne_d1_a2_43 f_109.lt
  have f_110 := Arv.ext V_d2 E1
  have f_111 := Arv.keep f_110 Kq9 (ninS ne_d2_b1_63 nin0)
  have f_112 := Arv.ext f_111 E18
  have f_113 := Arv.keep f_112 Kq22 (ninS ne_d2_b1_63 (ninS ne_d2_a2_9_67 nin0))
  have f_114 := Arv.keep f_113 Kq43 (ninS ne_d2_b1_63 (ninS ne_d2_a2_22_69 nin0))
  have f_115 := Arv.ext f_114 E87
  have ne_d2_a2_91 : d2 ≠ a2_91 := own_neRel o91_0 ne_d2_a2_43 f_115.lt
  refine Good.back (fun _ k => st91.trans k) ?_
  have hl3 : (bs2 ++ own_t38).length = bs2.length + 16 := by rw [List.length_append, show (own_t38).length = 16 from rfl]
  obtain ⟨bs3, eb3⟩ : ∃ z, z = bs2 ++ own_t38 := ⟨_, rfl⟩
  rw [← eb3] at o91_5 o91_6 o91_7 hl3
  refine Good.back (fun _ k => XS.aloadN X91.here hx rfl (hb hby k3_1.2.1.1) rfl rfl k) ?_
  have f_116 := Fld.ext E1 Fi2
  have f_117 := Fld.keep f_116 Kq9 (ninS ne_r0_b1_37 nin0)
  have f_118 := Fld.ext E18 f_117
  have f_119 := Fld.keep f_118 Kq22 (ninS ne_r0_b1_37 (ninS ne_r0_a2_9_41 nin0))
  have f_121 := Exa.ext E1 E0
  have f_122 := Exa.keep f_121 Kq9
  have f_123 := Exa.ext E18 f_122
  have f_124 := Exa.keep f_123 Kq22
  have ne_r0_a2_22_125 : r0 ≠ a2_22 := Exa.neArv f_124 o22_5 (wd hw 2 rfl)
  have f_120 := Fld.keep f_119 Kq43 (ninS ne_r0_b1_37 (ninS ne_r0_a2_22_125 nin0))
  have f_126 := Fld.ext E87 f_120
  have f_128 := Exa.ext E1 E0
  have f_129 := Exa.keep f_128 Kq9
  have f_130 := Exa.ext E18 f_129
  have f_131 := Exa.keep f_130 Kq22
  have f_132 := Exa.keep f_131 Kq43
  have f_133 := Exa.ext E87 f_132
  have ne_r0_a2_43_134 : r0 ≠ a2_43 := Exa.neArv f_133 f_100 (wd hw 2 rfl)
  have f_127 := Fld.keep f_126 Kq91 (ninS ne_r0_b1_37 (ninS ne_r0_a2_43_134 nin0))
  obtain ⟨T135, X135, e135, st135⟩ := getF X91 hx hZ87 hown87 (host := "") (Or.inl (wd hw 143 rfl)) Via.refl rfl f_127 (g := (mkF m 27 (a_RJsRu6 r0 1000000000 b1) [.ref r0, .ref b1])) rfl rfl (hb hby k3_1.2.1.2)
  refine Good.back st135 ?_
  have f_137 := own_staKeep f_93 Kq91 (allS (own_plainE f_95) (allS (own_plainV f_100) all0))
  have f_138 := Exa.keep f_95 Kq91
  have f_139 := own_staKeep f_49 Kq43 (allS (own_plainE f_45) (allS (own_plainV o22_5) all0))
  have f_140 := Sta.ext E87 f_139
  have f_141 := own_staKeep f_140 Kq91 (allS (own_plainE f_95) (allS (own_plainV f_100) all0))
  have f_142 := Arv.keep f_58 Kq43 (ninS ne_d1_b1_56 (ninS ne_d1_a2_22_68 nin0))
  have f_143 := Arv.ext f_142 E87
  have f_144 := Arv.keep f_143 Kq91 (ninS ne_d1_b1_56 (ninS ne_d1_a2_43 nin0))
  obtain ⟨cq136, kq136, q136a, q136b, q136c⟩ := isOf hZ87 e135 f_138
  obtain ⟨_, _, ⟨T136, L136, k136, n136⟩, -, X136, ⟨Lc136, hQ136, l136, y136, z136⟩, st136⟩ := X135.virtualBack hx (y := y_21) (z := y_21) hown87 (mvT hZ87 (wd hw 145 rfl)) (mvT hZ87 (wd hw 146 rfl)) (notFace_of_selects (args := #[]) (mvT hZ87 (wd hw 148 rfl))) (mvT hZ87 (wd hw 148 rfl)) (mvT hZ87 (wd hw 147 rfl)) (by decide) (backOf (W := 0) (rm24 l Z a0 hw [] b1 fi cs a2_91 k2_91 z2_91 c2_91 bs3 d1 kd1 T91.heap n0 Z101 f_137 (hcs) f_138 g_b1 o91_1 o91_2 o91_3 o91_4 o91_5 g_a2_91 (by first | assumption | decide) (by first | assumption | decide) (hd_) f_141 f_144 ne_d1_a2_91 (by have s1 := own_sdLen hvf; have s2 := own_sdLen hvl; have l9 : ([own_d1 fi]).length = 1 := rfl; omega)) hZ87 (wd hw 149 rfl) (wd hw 18 rfl) (by decide) (by decide)) q136a q136c (g := (mkF m 30 (a_RJsRu6 r0 1000000000 b1) [.int fi, .ref b1])) rfl (by rw [hml]; rfl) (Steps.refl _) (argsL := [(.int fi)]) (rest := []) (lenOf own_pd28 rfl) rfl (by show 2 * 0 + _ ≤ _; exact Nat.le_of_eq rfl) (hb hby k3_1.2.2.1) (fun _ _ => ⟨rfl, e135, (by decide : 9 + 1 ≤ _), (by decide : 724 + 200 ≤ _)⟩)
  dsimp only [Pt.U, Pt.locs, Pt.cells, Pt.slots] at X136 l136 y136 z136 st136 hQ136
  subst l136 y136 z136
  obtain ⟨a2_136, k2_136, z2_136, c2_136, rfl, N136q, Kq136, o136_0, o136_1, o136_2, o136_3, o136_4, o136_5, o136_6, o136_7⟩ := hQ136
  have N136 := Fr.app N91 N136q
  have Z145 : n0 ≤ T136.heap.size := Nat.le_trans Z101 Kq136.1
  have hk146 := Nat.le_trans hk102 Kq136.1
  have K147 : Keep h0 T136.heap [] := K103.trans Kq136 (allS (Or.inr sz_b1) (allS (Or.inr sz_a2_91) all0))
  have g_a2_136 : n0 ≤ a2_136 := own_rel o136_0 g_a2_91 Z101
  have sz_a2_136 : h0.size ≤ a2_136 := own_rel o136_0 sz_a2_91 K103.1
  have f_148 := Arv.ext V_d1 E1
  have f_149 := Arv.keep f_148 Kq9 (ninS ne_d1_b1_56 nin0)
  have f_150 := Arv.ext f_149 E18
  have f_151 := Arv.keep f_150 Kq22 (ninS ne_d1_b1_56 (ninS ne_d1_a2_9_60 nin0))
  have f_152 := Arv.keep f_151 Kq43 (ninS ne_d1_b1_56 (ninS ne_d1_a2_22_68 nin0))
  have f_153 := Arv.ext f_152 E87
  have f_154 := Arv.keep f_153 Kq91 (ninS ne_d1_b1_56 (ninS ne_d1_a2_43 nin0))
  have ne_d1_a2_136 : d1 ≠ a2_136 := own_neRel o136_0 ne_d1_a2_91 f_154.lt
  have f_155 := Arv.ext V_d2 E1
  have f_156 := Arv.keep f_155 Kq9 (ninS ne_d2_b1_63 nin0)
  have f_157 := Arv.ext f_156 E18
  have f_158 := Arv.keep f_157 Kq22 (ninS ne_d2_b1_63 (ninS ne_d2_a2_9_67 nin0))
  have f_159 := Arv.keep f_158 Kq43 (ninS ne_d2_b1_63 (ninS ne_d2_a2_22_69 nin0))
  have f_160 := Arv.ext f_159 E87
  have f_161 := Arv.keep f_160 Kq91 (ninS ne_d2_b1_63 (ninS ne_d2_a2_43 nin0))
  have ne_d2_a2_136 : d2 ≠ a2_136 := own_neRel o136_0 ne_d2_a2_91 f_161.lt
  refine Good.back (fun _ k => st136.trans k) ?_
  have hl4 : (bs3 ++ [own_d1 fi]).length = bs3.length + 1 := by rw [List.length_append, show ([own_d1 fi]).length = 1 from rfl]
  obtain ⟨bs4, eb4⟩ : ∃ z, z = bs3 ++ [own_d1 fi] := ⟨_, rfl⟩
  rw [← eb4] at o136_5 o136_6 o136_7 hl4
  have Sf163 := own_relS o91_0 Sf87
  have C162 := C87.trans (CHr.keep Kq91 (sfS (Safe.exa hZ87.alike f_95 (by decide) (by decide)) (sfS Sf87 sf0)) C87.1)
  have Sf164 := Safe.keep Kq91 (sfS (Safe.exa hZ87.alike f_95 (by decide) (by decide)) (sfS Sf87 sf0)) C87.1 Sf163
  have Sf166 := own_relS o136_0 Sf164
  have C165 := C162.trans (CHr.keep Kq136 (sfS (Safe.exa hZ87.alike f_138 (by decide) (by decide)) (sfS Sf164 sf0)) C162.1)
  have Sf167 := Safe.keep Kq136 (sfS (Safe.exa hZ87.alike f_138 (by decide) (by decide)) (sfS Sf164 sf0)) C162.1 Sf166
  obtain ⟨a168, T168, h168, kc168, bl168, kl168, X168, e168, E168, hS168, hk168, hZ168, hown168, q168E, q168C, q168V, q168A, -, -, Cc168, -, -, st168⟩ := ldcCH X136 hx hZ87 hown87 (wd hw 161 rfl) (own_wS hw) rfl hS87 hk146 (own_EW hw) (List.mem_of_getElem? (i := 2) rfl) C165.1 (vs := [(.int 32), (.int 102), (.int 105), (.int 108), (.int 101), (.int 115), (.int 10)]) (z := (7 : Int32)) ⟨by decide, by decide⟩ (by decide) (by decide) (g := (mkF m 33 (a_RJsRu6 r0 1000000000 b1) [.ref b1])) rfl (hb hby k3_1.2.2.2) (n := 28) (by decide +kernel) (by decide) (by decide) (by decide)
  refine Good.back st168 ?_
  have C168 := C165.trans Cc168
  have Sf168 := CHr.safe Cc168 o136_5.lt Sf167
  have Z169 : n0 ≤ h168.size := Nat.le_trans Z145 E168.1
  have hk170 := Nat.le_trans hk146 E168.1
  have K171 : Keep h0 h168 [] := K147.ext E168
  have f_173 := own_staKeep f_137 Kq136 (allS (own_plainE f_138) (allS (own_plainV o91_5) all0))
  have f_174 := Sta.ext E168 f_173
  have f_175 := Exa.keep f_138 Kq136
  have f_176 := Exa.ext E168 f_175
  have f_177 := Fld.ext E168 o136_1
  have f_178 := Fld.ext E168 o136_2
  have f_179 := Fld.ext E168 o136_3
  have f_180 := Exa.ext E168 o136_4
  have f_181 := Arv.ext o136_5 E168
  obtain ⟨cq172, kq172, q172a, q172b, q172c⟩ := isOf hZ168 e168 f_176
  obtain ⟨_, _, ⟨T172, L172, k172, n172⟩, -, X172, ⟨Lc172, hQ172, l172, y172, z172⟩, st172⟩ := X168.virtualBack hx (y := y_12) (z := y_12) hown168 (mvT hZ168 (wd hw 42 rfl)) (mvT hZ168 (wd hw 43 rfl)) (notFace_of_selects (args := #[]) (mvT hZ168 (wd hw 45 rfl))) (mvT hZ168 (wd hw 45 rfl)) (mvT hZ168 (wd hw 44 rfl)) (by decide) (backOf (W := 0) (rm6 l Z a0 hw [] b1 a168 cs bl168 kl168 (7 : Int32) own_t43 a2_136 k2_136 z2_136 c2_136 bs4 h168 n0 Z169 f_174 (hcs) f_176 g_b1 f_177 f_178 f_179 f_180 f_181 g_a2_136 (by first | assumption | decide) (by first | assumption | decide) q168E q168V q168C q168A (rfl) (by have s1 := own_sdLen hvf; have s2 := own_sdLen hvl; have l9 : (own_t43).length = 7 := rfl; omega)) hZ168 (wd hw 46 rfl) (wd hw 18 rfl) (by decide) (by decide)) q172a q172c (g := (mkF m 35 (a_RJsRu6 r0 1000000000 b1) [.ref a168, .ref b1])) rfl (by rw [hml]; rfl) (Steps.refl _) (argsL := [(.ref a168)]) (rest := []) (lenOf own_pd26 rfl) rfl (by show 2 * 0 + _ ≤ _; exact Nat.le_of_eq rfl) (hb hby k3_2.1.1.1) (fun _ _ => ⟨rfl, e168, (by decide : 12 + 1 ≤ _), (by decide : 956 + 200 ≤ _)⟩)
  dsimp only [Pt.U, Pt.locs, Pt.cells, Pt.slots] at X172 l172 y172 z172 st172 hQ172
  subst l172 y172 z172
  obtain ⟨a2_172, k2_172, z2_172, c2_172, rfl, N172q, Kq172, o172_0, o172_1, o172_2, o172_3, o172_4, o172_5, o172_6, o172_7⟩ := hQ172
  have N172 := Fr.app N136 N172q
  have Z182 : n0 ≤ T172.heap.size := Nat.le_trans Z169 Kq172.1
  have hk183 := Nat.le_trans hk168 Kq172.1
  have K184 : Keep h0 T172.heap [] := K171.trans Kq172 (allS (Or.inr sz_b1) (allS (Or.inr sz_a2_136) all0))
  have g_a2_172 : n0 ≤ a2_172 := own_rel o172_0 g_a2_136 Z169
  have sz_a2_172 : h0.size ≤ a2_172 := own_rel o172_0 sz_a2_136 K171.1
  have f_185 := Arv.ext V_d1 E1
  have f_186 := Arv.keep f_185 Kq9 (ninS ne_d1_b1_56 nin0)
  have f_187 := Arv.ext f_186 E18
  have f_188 := Arv.keep f_187 Kq22 (ninS ne_d1_b1_56 (ninS ne_d1_a2_9_60 nin0))
  have f_189 := Arv.keep f_188 Kq43 (ninS ne_d1_b1_56 (ninS ne_d1_a2_22_68 nin0))
  have f_190 := Arv.ext f_189 E87
  have f_191 := Arv.keep f_190 Kq91 (ninS ne_d1_b1_56 (ninS ne_d1_a2_43 nin0))
  have f_192 := Arv.keep f_191 Kq136 (ninS ne_d1_b1_56 (ninS ne_d1_a2_91 nin0))
  have f_193 := Arv.ext f_192 E168
  have ne_d1_a2_172 : d1 ≠ a2_172 := own_neRel o172_0 ne_d1_a2_136 f_193.lt
  have f_194 := Arv.ext V_d2 E1
  have f_195 := Arv.keep f_194 Kq9 (ninS ne_d2_b1_63 nin0)
  have f_196 := Arv.ext f_195 E18
  have f_197 := Arv.keep f_196 Kq22 (ninS ne_d2_b1_63 (ninS ne_d2_a2_9_67 nin0))
  have f_198 := Arv.keep f_197 Kq43 (ninS ne_d2_b1_63 (ninS ne_d2_a2_22_69 nin0))
  have f_199 := Arv.ext f_198 E87
  have f_200 := Arv.keep f_199 Kq91 (ninS ne_d2_b1_63 (ninS ne_d2_a2_43 nin0))
  have f_201 := Arv.keep f_200 Kq136 (ninS ne_d2_b1_63 (ninS ne_d2_a2_91 nin0))
  have f_202 := Arv.ext f_201 E168
  have ne_d2_a2_172 : d2 ≠ a2_172 := own_neRel o172_0 ne_d2_a2_136 f_202.lt
  refine Good.back (fun _ k => st172.trans k) ?_
  have hl5 : (bs4 ++ own_t43).length = bs4.length + 7 := by rw [List.length_append, show (own_t43).length = 7 from rfl]
  obtain ⟨bs5, eb5⟩ : ∃ z, z = bs4 ++ own_t43 := ⟨_, rfl⟩
  rw [← eb5] at o172_5 o172_6 o172_7 hl5
  refine Good.back (fun _ k => XS.pop X172.here hx rfl (hb hby k3_2.1.1.2) rfl rfl k) ?_
  refine Good.back (fun _ k => XS.aloadN X172.here hx rfl (hb hby k3_2.1.2.1) rfl rfl k) ?_
  have f_203 := Fld.ext E1 Fi3
  have f_204 := Fld.keep f_203 Kq9 (ninS ne_r0_b1_37 nin0)
  have f_205 := Fld.ext E18 f_204
  have f_206 := Fld.keep f_205 Kq22 (ninS ne_r0_b1_37 (ninS ne_r0_a2_9_41 nin0))
  have f_207 := Fld.keep f_206 Kq43 (ninS ne_r0_b1_37 (ninS ne_r0_a2_22_125 nin0))
  have f_208 := Fld.ext E87 f_207
  have f_209 := Fld.keep f_208 Kq91 (ninS ne_r0_b1_37 (ninS ne_r0_a2_43_134 nin0))
  have f_211 := Exa.ext E1 E0
  have f_212 := Exa.keep f_211 Kq9
  have f_213 := Exa.ext E18 f_212
  have f_214 := Exa.keep f_213 Kq22
  have f_215 := Exa.keep f_214 Kq43
  have f_216 := Exa.ext E87 f_215
  have f_217 := Exa.keep f_216 Kq91
  have ne_r0_a2_91_218 : r0 ≠ a2_91 := Exa.neArv f_217 o91_5 (wd hw 2 rfl)
  have f_210 := Fld.keep f_209 Kq136 (ninS ne_r0_b1_37 (ninS ne_r0_a2_91_218 nin0))
  have f_219 := Fld.ext E168 f_210
  have f_221 := Exa.ext E1 E0
  have f_222 := Exa.keep f_221 Kq9
  have f_223 := Exa.ext E18 f_222
  have f_224 := Exa.keep f_223 Kq22
  have f_225 := Exa.keep f_224 Kq43
  have f_226 := Exa.ext E87 f_225
  have f_227 := Exa.keep f_226 Kq91
  have f_228 := Exa.keep f_227 Kq136
  have f_229 := Exa.ext E168 f_228
  have ne_r0_a2_136_230 : r0 ≠ a2_136 := Exa.neArv f_229 f_181 (wd hw 2 rfl)
  have f_220 := Fld.keep f_219 Kq172 (ninS ne_r0_b1_37 (ninS ne_r0_a2_136_230 nin0))
  obtain ⟨T231, X231, e231, st231⟩ := getF X172 hx hZ168 hown168 (host := "") (Or.inl (wd hw 162 rfl)) Via.refl rfl f_220 (g := (mkF m 40 (a_RJsRu6 r0 1000000000 b1) [.ref r0])) rfl rfl (hb hby k3_2.1.2.2)
  refine Good.back st231 ?_
  refine Good.back (fun _ k => XS.ifYes X231.here hx rfl (pc0 := 43) (pc' := 65) rfl (hb hby k3_2.2.1.1) rfl ((if0 _ _).trans (flt (by decide : ¬ ((0 : Int32) < (0 : Int32)))).2.2.2) (by decide) (by decide) k) ?_
  refine Good.back (fun _ k => XS.aloadN X231.here hx rfl (hb hby k3_2.2.1.2) rfl rfl k) ?_
  have f_232 := Fld.ext E1 Fi4
  have f_233 := Fld.keep f_232 Kq9 (ninS ne_r0_b1_37 nin0)
  have f_234 := Fld.ext E18 f_233
  have f_235 := Fld.keep f_234 Kq22 (ninS ne_r0_b1_37 (ninS ne_r0_a2_9_41 nin0))
  have f_236 := Fld.keep f_235 Kq43 (ninS ne_r0_b1_37 (ninS ne_r0_a2_22_125 nin0))
  have f_237 := Fld.ext E87 f_236
  have f_238 := Fld.keep f_237 Kq91 (ninS ne_r0_b1_37 (ninS ne_r0_a2_43_134 nin0))
  have f_239 := Fld.keep f_238 Kq136 (ninS ne_r0_b1_37 (ninS ne_r0_a2_91_218 nin0))
  have f_240 := Fld.ext E168 f_239
  have f_241 := Fld.keep f_240 Kq172 (ninS ne_r0_b1_37 (ninS ne_r0_a2_136_230 nin0))
  obtain ⟨T242, X242, e242, st242⟩ := getF X231 hx hZ168 hown168 (host := "") (Or.inl (wd hw 164 rfl)) Via.refl e231 f_241 (g := (mkF m 66 (a_RJsRu6 r0 1000000000 b1) [.ref r0])) rfl rfl (hb hby k3_2.2.2.1)
  refine Good.back st242 ?_
  refine Good.back (fun _ k => XS.ifYes X242.here hx rfl (pc0 := 69) (pc' := 91) rfl (hb hby k3_2.2.2.2) rfl ((if0 _ _).trans (flt (by decide : ¬ ((0 : Int32) < (0 : Int32)))).2.2.2) (by decide) (by decide) k) ?_
  refine Good.back (fun _ k => XS.lloadN X242.here hx rfl (hb hby k3_3.1.1.1) rfl k) ?_
  refine Good.back (fun _ k => XS.lconst X242.here hx rfl (hb hby k3_3.1.1.2) k) ?_
  obtain ⟨_, _, ⟨T243, L243, k243, n243⟩, -, X243, ⟨Lc243, hQ243, l243, y243, z243⟩, st243⟩ := Jvm.LawKit.callS X242 hx (y := y_36) hown168 (mvT hZ168 (wd hw 166 rfl)) (mvT hZ168 (wd hw 167 rfl)) (mvT hZ168 (wd hw 131 rfl)) (mvT hZ168 (wd hw 168 rfl)) (by decide) (backOf (W := 0) (rm28 l Z a0 hw []   T172.heap n0 Z182 ) hZ168 (wd hw 168 rfl) (wd hw 131 rfl) (by decide) (by decide)) (g := (mkF m 93 (a_RJsRu6 r0 1000000000 b1) [.long 1, .long 1000000000])) rfl (by rw [hml]; rfl) (argsL := [(.long 1000000000), (.long 1)]) (rest := []) (lenOf own_pd29 rfl) rfl (by show 2 * 0 + _ ≤ _; exact Nat.le_of_eq rfl) (hb hby k3_3.1.2.1) (fun _ _ => ⟨rfl, e242, (by decide : 13 + 0 ≤ _), (by decide : 1156 + 0 ≤ _)⟩)
  dsimp only [Pt.U, Pt.locs, Pt.cells, Pt.slots] at X243 l243 y243 z243 st243 hQ243
  subst l243 y243 z243
  obtain ⟨rfl, N243q, eh243⟩ := hQ243
  have N243 := Fr.app N172 N243q
  refine Good.back st243 ?_
  refine Good.back (fun _ k => XS.lstore X243.here hx rfl (hb hby k3_3.1.2.2) rfl (l' := (a_RJsRJsu4 r0 1000000000 b1 1000000000)) rfl k) ?_
  refine Good.back (fun _ k => XS.lload X243.here hx rfl (hb hby k3_3.2.1.1) rfl k) ?_
  refine Good.back (X243.ldc2Long hx hown168 (mvT hZ168 (wd hw 169 rfl)) (g := (mkF m 100 (a_RJsRJsu4 r0 1000000000 b1 1000000000) [.long 1000000000])) rfl (hb hby k3_3.2.1.2)) ?_
  refine Good.back (fun _ k => XS.ladd X243.here hx rfl (hb hby k3_3.2.2.1) rfl k) ?_
  show Good p e below _ (T243.setTop (mkF m 104 (a_RJsRJsu4 r0 1000000000 b1 1000000000) [.long ((1000000000 : Int64) + (50000000 : Int64))]))
  rw [show (((1000000000 : Int64) + (50000000 : Int64)) : Int64) = (1050000000 : Int64) from by decide]
  refine Good.back (X243.ldc2Long hx hown168 (mvT hZ168 (wd hw 170 rfl)) (g := (mkF m 104 (a_RJsRJsu4 r0 1000000000 b1 1000000000) [.long 1050000000])) rfl (hb hby k3_3.2.2.2)) ?_
  refine Good.back (fun _ k => XS.ldiv X243.here hx rfl (hb hby k3_4.1.1.1) rfl (by decide) k) ?_
  show Good p e below _ (T243.setTop (mkF m 108 (a_RJsRJsu4 r0 1000000000 b1 1000000000) [.long ((1050000000 : Int64) / (100000000 : Int64))]))
  rw [show (((1050000000 : Int64) / (100000000 : Int64)) : Int64) = (10 : Int64) from by decide]
  show Good p e below _ (T243.setTop (mkF m 108 (a_RJsRJsu4 r0 1000000000 b1 1000000000) [.long 10]))
  refine Good.back (fun _ k => XS.lstore X243.here hx rfl (hb hby k3_4.1.1.2) rfl (l' := (a_RJsRJsJsuu r0 1000000000 b1 1000000000 10)) rfl k) ?_
  refine Good.back (fun _ k => XS.aloadN X243.here hx rfl (hb hby k3_4.1.2.1) rfl rfl k) ?_
  have f_244 := Fld.ext E1 Fi1
  have f_245 := Fld.keep f_244 Kq9 (ninS ne_r0_b1_37 nin0)
  have f_246 := Fld.ext E18 f_245
  have f_247 := Fld.keep f_246 Kq22 (ninS ne_r0_b1_37 (ninS ne_r0_a2_9_41 nin0))
  have f_248 := Fld.keep f_247 Kq43 (ninS ne_r0_b1_37 (ninS ne_r0_a2_22_125 nin0))
  have f_249 := Fld.ext E87 f_248
  have f_250 := Fld.keep f_249 Kq91 (ninS ne_r0_b1_37 (ninS ne_r0_a2_43_134 nin0))
  have f_251 := Fld.keep f_250 Kq136 (ninS ne_r0_b1_37 (ninS ne_r0_a2_91_218 nin0))
  have f_252 := Fld.ext E168 f_251
  have f_253 := Fld.keep f_252 Kq172 (ninS ne_r0_b1_37 (ninS ne_r0_a2_136_230 nin0))
  obtain ⟨T254, X254, e254, st254⟩ := getF X243 hx hZ168 hown168 (host := "") (Or.inl (wd hw 171 rfl)) Via.refl eh243 f_253 (g := (mkF m 111 (a_RJsRJsJsuu r0 1000000000 b1 1000000000 10) [.ref r0])) rfl rfl (hb hby k3_4.1.2.2)
  refine Good.back st254 ?_
  refine Good.back (X254.ldc2Long hx hown168 (mvT hZ168 (wd hw 173 rfl)) (g := (mkF m 114 (a_RJsRJsJsuu r0 1000000000 b1 1000000000 10) [.long lq])) rfl (hb hby k3_4.2.1.1)) ?_
  obtain ⟨_, _, ⟨T255, L255, k255, n255⟩, -, X255, ⟨Lc255, hQ255, l255, y255, z255⟩, st255⟩ := Jvm.LawKit.callS X254 hx (y := y_38) hown168 (mvT hZ168 (wd hw 174 rfl)) (mvT hZ168 (wd hw 175 rfl)) (mvT hZ168 (wd hw 131 rfl)) (mvT hZ168 (wd hw 176 rfl)) (by decide) (backOf (W := 0) (rm29 l Z a0 hw [] lq  T172.heap n0 Z182 (hvl)) hZ168 (wd hw 176 rfl) (wd hw 131 rfl) (by decide) (by decide)) (g := (mkF m 117 (a_RJsRJsJsuu r0 1000000000 b1 1000000000 10) [.long 1000000000, .long lq])) rfl (by rw [hml]; rfl) (argsL := [(.long lq), (.long 1000000000)]) (rest := []) (lenOf own_pd29 rfl) rfl (by show 2 * 0 + _ ≤ _; exact Nat.le_of_eq rfl) (hb hby k3_4.2.1.2) (fun _ _ => ⟨rfl, e254, (by decide : 13 + 0 ≤ _), (by decide : 1156 + 0 ≤ _)⟩)
  dsimp only [Pt.U, Pt.locs, Pt.cells, Pt.slots] at X255 l255 y255 z255 st255 hQ255
  subst l255 y255 z255
  obtain ⟨rfl, N255q, eh255⟩ := hQ255
  have N255 := Fr.app N243 N255q
  refine Good.back st255 ?_
  refine Good.back (fun _ k => XS.lload X255.here hx rfl (hb hby k3_4.2.2.1) rfl k) ?_
  refine Good.back (fun _ k => XS.ldiv X255.here hx rfl (hb hby k3_4.2.2.2) rfl (by decide) k) ?_
  show Good p e below _ (T255.setTop (mkF m 123 (a_RJsRJsJsuu r0 1000000000 b1 1000000000 10) [.long ((lq * (1000000000 : Int64)) / (1000000000 : Int64))]))
  rw [show (((lq * (1000000000 : Int64)) / (1000000000 : Int64)) : Int64) = lq from (own_mulE hvl).2]
  show Good p e below _ (T255.setTop (mkF m 123 (a_RJsRJsJsuu r0 1000000000 b1 1000000000 10) [.long lq]))
  refine Good.back (fun _ k => XS.lstore X255.here hx rfl (hb hby k3_5.1.1.1) rfl (l' := (a_RJsRJsJsJs r0 1000000000 b1 1000000000 10 lq)) rfl k) ?_
  refine Good.back (fun _ k => XS.aloadN X255.here hx rfl (hb hby k3_5.1.1.2) rfl rfl k) ?_
  have Sf257 := own_relS o172_0 Sf168
  have C256 := C168.trans (CHr.keep Kq172 (sfS (Safe.exa hZ168.alike f_176 (by decide) (by decide)) (sfS Sf168 sf0)) C168.1)
  have Sf258 := Safe.keep Kq172 (sfS (Safe.exa hZ168.alike f_176 (by decide) (by decide)) (sfS Sf168 sf0)) C168.1 Sf257
  obtain ⟨a259, T259, h259, kc259, bl259, kl259, X259, e259, E259, hS259, hk259, hZ259, hown259, q259E, q259C, q259V, q259A, -, -, Cc259, -, -, st259⟩ := ldcCH X255 hx hZ168 hown168 (wd hw 180 rfl) (own_wS hw) eh255 hS168 hk183 (own_EW hw) (List.mem_of_getElem? (i := 3) rfl) C256.1 (vs := [(.int 101), (.int 108), (.int 97), (.int 112), (.int 115), (.int 101), (.int 100), (.int 32)]) (z := (8 : Int32)) ⟨by decide, by decide⟩ (by decide) (by decide) (g := (mkF m 126 (a_RJsRJsJsJs r0 1000000000 b1 1000000000 10 lq) [.ref b1])) rfl (hb hby k3_5.1.2.1) (n := 32) (by decide +kernel) (by decide) (by decide) (by decide)
  refine Good.back st259 ?_
  have C259 := C256.trans Cc259
  have Sf259 := CHr.safe Cc259 o172_5.lt Sf258
  have Z260 : n0 ≤ h259.size := Nat.le_trans Z182 E259.1
  have hk261 := Nat.le_trans hk183 E259.1
  have K262 : Keep h0 h259 [] := K184.ext E259
  have f_264 := own_staKeep f_174 Kq172 (allS (own_plainE f_176) (allS (own_plainV f_181) all0))
  have f_265 := Sta.ext E259 f_264
  have f_266 := Exa.keep f_176 Kq172
  have f_267 := Exa.ext E259 f_266
  have f_268 := Fld.ext E259 o172_1
  have f_269 := Fld.ext E259 o172_2
  have f_270 := Fld.ext E259 o172_3
  have f_271 := Exa.ext E259 o172_4
  have f_272 := Arv.ext o172_5 E259
  obtain ⟨cq263, kq263, q263a, q263b, q263c⟩ := isOf hZ259 e259 f_267
  obtain ⟨_, _, ⟨T263, L263, k263, n263⟩, -, X263, ⟨Lc263, hQ263, l263, y263, z263⟩, st263⟩ := X259.virtualBack hx (y := y_12) (z := y_12) hown259 (mvT hZ259 (wd hw 42 rfl)) (mvT hZ259 (wd hw 43 rfl)) (notFace_of_selects (args := #[]) (mvT hZ259 (wd hw 45 rfl))) (mvT hZ259 (wd hw 45 rfl)) (mvT hZ259 (wd hw 44 rfl)) (by decide) (backOf (W := 0) (rm6 l Z a0 hw [] b1 a259 cs bl259 kl259 (8 : Int32) own_t64 a2_172 k2_172 z2_172 c2_172 bs5 h259 n0 Z260 f_265 (hcs) f_267 g_b1 f_268 f_269 f_270 f_271 f_272 g_a2_172 (by first | assumption | decide) (by first | assumption | decide) q259E q259V q259C q259A (rfl) (by have s1 := own_sdLen hvf; have s2 := own_sdLen hvl; have l9 : (own_t64).length = 8 := rfl; omega)) hZ259 (wd hw 46 rfl) (wd hw 18 rfl) (by decide) (by decide)) q263a q263c (g := (mkF m 128 (a_RJsRJsJsJs r0 1000000000 b1 1000000000 10 lq) [.ref a259, .ref b1])) rfl (by rw [hml]; rfl) (Steps.refl _) (argsL := [(.ref a259)]) (rest := []) (lenOf own_pd26 rfl) rfl (by show 2 * 0 + _ ≤ _; exact Nat.le_of_eq rfl) (hb hby k3_5.1.2.2) (fun _ _ => ⟨rfl, e259, (by decide : 15 + 1 ≤ _), (by decide : 1192 + 200 ≤ _)⟩)
  dsimp only [Pt.U, Pt.locs, Pt.cells, Pt.slots] at X263 l263 y263 z263 st263 hQ263
  subst l263 y263 z263
  obtain ⟨a2_263, k2_263, z2_263, c2_263, rfl, N263q, Kq263, o263_0, o263_1, o263_2, o263_3, o263_4, o263_5, o263_6, o263_7⟩ := hQ263
  have N263 := Fr.app N255 N263q
  have Z273 : n0 ≤ T263.heap.size := Nat.le_trans Z260 Kq263.1
  have hk274 := Nat.le_trans hk259 Kq263.1
  have K275 : Keep h0 T263.heap [] := K262.trans Kq263 (allS (Or.inr sz_b1) (allS (Or.inr sz_a2_172) all0))
  have g_a2_263 : n0 ≤ a2_263 := own_rel o263_0 g_a2_172 Z260
  have sz_a2_263 : h0.size ≤ a2_263 := own_rel o263_0 sz_a2_172 K262.1
  have f_276 := Arv.ext V_d1 E1
  have f_277 := Arv.keep f_276 Kq9 (ninS ne_d1_b1_56 nin0)
  have f_278 := Arv.ext f_277 E18
  have f_279 := Arv.keep f_278 Kq22 (ninS ne_d1_b1_56 (ninS ne_d1_a2_9_60 nin0))
  have f_280 := Arv.keep f_279 Kq43 (ninS ne_d1_b1_56 (ninS ne_d1_a2_22_68 nin0))
  have f_281 := Arv.ext f_280 E87
  have f_282 := Arv.keep f_281 Kq91 (ninS ne_d1_b1_56 (ninS ne_d1_a2_43 nin0))
  have f_283 := Arv.keep f_282 Kq136 (ninS ne_d1_b1_56 (ninS ne_d1_a2_91 nin0))
  have f_284 := Arv.ext f_283 E168
  have f_285 := Arv.keep f_284 Kq172 (ninS ne_d1_b1_56 (ninS ne_d1_a2_136 nin0))
  have f_286 := Arv.ext f_285 E259
  have ne_d1_a2_263 : d1 ≠ a2_263 := own_neRel o263_0 ne_d1_a2_172 f_286.lt
  have f_287 := Arv.ext V_d2 E1
  have f_288 := Arv.keep f_287 Kq9 (ninS ne_d2_b1_63 nin0)
  have f_289 := Arv.ext f_288 E18
  have f_290 := Arv.keep f_289 Kq22 (ninS ne_d2_b1_63 (ninS ne_d2_a2_9_67 nin0))
  have f_291 := Arv.keep f_290 Kq43 (ninS ne_d2_b1_63 (ninS ne_d2_a2_22_69 nin0))
  have f_292 := Arv.ext f_291 E87
  have f_293 := Arv.keep f_292 Kq91 (ninS ne_d2_b1_63 (ninS ne_d2_a2_43 nin0))
  have f_294 := Arv.keep f_293 Kq136 (ninS ne_d2_b1_63 (ninS ne_d2_a2_91 nin0))
  have f_295 := Arv.ext f_294 E168
  have f_296 := Arv.keep f_295 Kq172 (ninS ne_d2_b1_63 (ninS ne_d2_a2_136 nin0))
  have f_297 := Arv.ext f_296 E259
  have ne_d2_a2_263 : d2 ≠ a2_263 := own_neRel o263_0 ne_d2_a2_172 f_297.lt
  refine Good.back (fun _ k => st263.trans k) ?_
  have hl6 : (bs5 ++ own_t64).length = bs5.length + 8 := by rw [List.length_append, show (own_t64).length = 8 from rfl]
  obtain ⟨bs6, eb6⟩ : ∃ z, z = bs5 ++ own_t64 := ⟨_, rfl⟩
  rw [← eb6] at o263_5 o263_6 o263_7 hl6
  refine Good.back (fun _ k => XS.lload X263.here hx rfl (hb hby k3_5.2.1.1) rfl k) ?_
  refine Good.back (X263.ldc2Long hx hown259 (mvT hZ259 (wd hw 181 rfl)) (g := (mkF m 133 (a_RJsRJsJsJs r0 1000000000 b1 1000000000 10 lq) [.long 10, .ref b1])) rfl (hb hby k3_5.2.1.2)) ?_
  refine Good.back (fun _ k => XS.ldiv X263.here hx rfl (hb hby k3_5.2.2.1) rfl (by decide) k) ?_
  show Good p e below _ (T263.setTop (mkF m 137 (a_RJsRJsJsJs r0 1000000000 b1 1000000000 10 lq) [.long ((10 : Int64) / (10 : Int64)), .ref b1]))
  rw [show (((10 : Int64) / (10 : Int64)) : Int64) = (1 : Int64) from by decide]
  show Good p e below _ (T263.setTop (mkF m 137 (a_RJsRJsJsJs r0 1000000000 b1 1000000000 10 lq) [.long 1, .ref b1]))
  have f_299 := own_staKeep f_265 Kq263 (allS (own_plainE f_267) (allS (own_plainV f_272) all0))
  have f_300 := Exa.keep f_267 Kq263
  have f_301 := own_staKeep f_141 Kq136 (allS (own_plainE f_138) (allS (own_plainV o91_5) all0))
  have f_302 := Sta.ext E168 f_301
  have f_303 := own_staKeep f_302 Kq172 (allS (own_plainE f_176) (allS (own_plainV f_181) all0))
  have f_304 := Sta.ext E259 f_303
  have f_305 := own_staKeep f_304 Kq263 (allS (own_plainE f_267) (allS (own_plainV f_272) all0))
  have f_306 := own_staKeep f_53 Kq43 (allS (own_plainE f_45) (allS (own_plainV o22_5) all0))
  have f_307 := Sta.ext E87 f_306
  have f_308 := own_staKeep f_307 Kq91 (allS (own_plainE f_95) (allS (own_plainV f_100) all0))
  have f_309 := own_staKeep f_308 Kq136 (allS (own_plainE f_138) (allS (own_plainV o91_5) all0))
  have f_310 := Sta.ext E168 f_309
  have f_311 := own_staKeep f_310 Kq172 (allS (own_plainE f_176) (allS (own_plainV f_181) all0))
  have f_312 := Sta.ext E259 f_311
  have f_313 := own_staKeep f_312 Kq263 (allS (own_plainE f_267) (allS (own_plainV f_272) all0))
  have f_314 := Arv.keep f_144 Kq136 (ninS ne_d1_b1_56 (ninS ne_d1_a2_91 nin0))
  have f_315 := Arv.ext f_314 E168
  have f_316 := Arv.keep f_315 Kq172 (ninS ne_d1_b1_56 (ninS ne_d1_a2_136 nin0))
  have f_317 := Arv.ext f_316 E259
  have f_318 := Arv.keep f_317 Kq263 (ninS ne_d1_b1_56 (ninS ne_d1_a2_172 nin0))
  have f_319 := Arv.keep f_65 Kq43 (ninS ne_d2_b1_63 (ninS ne_d2_a2_22_69 nin0))
  have f_320 := Arv.ext f_319 E87
  have f_321 := Arv.keep f_320 Kq91 (ninS ne_d2_b1_63 (ninS ne_d2_a2_43 nin0))
  have f_322 := Arv.keep f_321 Kq136 (ninS ne_d2_b1_63 (ninS ne_d2_a2_91 nin0))
  have f_323 := Arv.ext f_322 E168
  have f_324 := Arv.keep f_323 Kq172 (ninS ne_d2_b1_63 (ninS ne_d2_a2_136 nin0))
  have f_325 := Arv.ext f_324 E259
  have f_326 := Arv.keep f_325 Kq263 (ninS ne_d2_b1_63 (ninS ne_d2_a2_172 nin0))
  obtain ⟨cq298, kq298, q298a, q298b, q298c⟩ := isOf hZ259 rfl f_300
  obtain ⟨_, _, ⟨T298, L298, k298, n298⟩, -, X298, ⟨Lc298, hQ298, l298, y298, z298⟩, st298⟩ := X263.virtualBack hx (y := y_17) (z := y_17) hown259 (mvT hZ259 (wd hw 94 rfl)) (mvT hZ259 (wd hw 95 rfl)) (notFace_of_selects (args := #[]) (mvT hZ259 (wd hw 97 rfl))) (mvT hZ259 (wd hw 97 rfl)) (mvT hZ259 (wd hw 96 rfl)) (by decide) (backOf (W := 0) (rm14 l Z a0 hw [] b1 (1 : Int64) cs a2_263 k2_263 z2_263 c2_263 bs6 d1 d2 kd1 kd2 T263.heap n0 Z273 f_299 (hcs) f_300 g_b1 o263_1 o263_2 o263_3 o263_4 o263_5 g_a2_263 (by first | assumption | decide) (by first | assumption | decide) (by decide) f_305 f_313 f_318 f_326 ne_d1_a2_263 ne_d2_a2_263 (by have s1 := own_sdLen hvf; have s2 := own_sdLen hvl; have l9 : ((own_sd (1 : Int64))).length = 1 := (by rw [own_sdP (m := 1) rfl, own_dg1 (by decide)]; rfl); omega)) hZ259 (wd hw 98 rfl) (wd hw 18 rfl) (by decide) (by decide)) q298a q298c (g := (mkF m 137 (a_RJsRJsJsJs r0 1000000000 b1 1000000000 10 lq) [.long 1, .ref b1])) rfl (by rw [hml]; rfl) (Steps.refl _) (argsL := [(.long 1)]) (rest := []) (lenOf own_pd27 rfl) rfl (by show 2 * 0 + _ ≤ _; exact Nat.le_of_eq rfl) (hb hby k3_5.2.2.2) (fun _ _ => ⟨rfl, rfl, (by decide : 16 + 1 ≤ _), (by decide : 1392 + 200 ≤ _)⟩)
  dsimp only [Pt.U, Pt.locs, Pt.cells, Pt.slots] at X298 l298 y298 z298 st298 hQ298
  subst l298 y298 z298
  obtain ⟨a2_298, k2_298, z2_298, c2_298, rfl, N298q, Kq298, o298_0, o298_1, o298_2, o298_3, o298_4, o298_5, o298_6, o298_7⟩ := hQ298
  have N298 := Fr.app N263 N298q
  have Z327 : n0 ≤ T298.heap.size := Nat.le_trans Z273 Kq298.1
  have hk328 := Nat.le_trans hk274 Kq298.1
  have K329 : Keep h0 T298.heap [] := K275.trans Kq298 (allS (Or.inr sz_b1) (allS (Or.inr sz_a2_263) all0))
  have g_a2_298 : n0 ≤ a2_298 := own_rel o298_0 g_a2_263 Z273
  have sz_a2_298 : h0.size ≤ a2_298 := own_rel o298_0 sz_a2_263 K275.1
  have f_330 := Arv.ext V_d1 E1
  have f_331 := Arv.keep f_330 Kq9 (ninS ne_d1_b1_56 nin0)
  have f_332 := Arv.ext f_331 E18
  have f_333 := Arv.keep f_332 Kq22 (ninS ne_d1_b1_56 (ninS ne_d1_a2_9_60 nin0))
  have f_334 := Arv.keep f_333 Kq43 (ninS ne_d1_b1_56 (ninS ne_d1_a2_22_68 nin0))
  have f_335 := Arv.ext f_334 E87
  have f_336 := Arv.keep f_335 Kq91 (ninS ne_d1_b1_56 (ninS ne_d1_a2_43 nin0))
  have f_337 := Arv.keep f_336 Kq136 (ninS ne_d1_b1_56 (ninS ne_d1_a2_91 nin0))
  have f_338 := Arv.ext f_337 E168
  have f_339 := Arv.keep f_338 Kq172 (ninS ne_d1_b1_56 (ninS ne_d1_a2_136 nin0))
  have f_340 := Arv.ext f_339 E259
  have f_341 := Arv.keep f_340 Kq263 (ninS ne_d1_b1_56 (ninS ne_d1_a2_172 nin0))
  have ne_d1_a2_298 : d1 ≠ a2_298 := own_neRel o298_0 ne_d1_a2_263 f_341.lt
  have f_342 := Arv.ext V_d2 E1
  have f_343 := Arv.keep f_342 Kq9 (ninS ne_d2_b1_63 nin0)
  have f_344 := Arv.ext f_343 E18
  have f_345 := Arv.keep f_344 Kq22 (ninS ne_d2_b1_63 (ninS ne_d2_a2_9_67 nin0))
  have f_346 := Arv.keep f_345 Kq43 (ninS ne_d2_b1_63 (ninS ne_d2_a2_22_69 nin0))
  have f_347 := Arv.ext f_346 E87
  have f_348 := Arv.keep f_347 Kq91 (ninS ne_d2_b1_63 (ninS ne_d2_a2_43 nin0))
  have f_349 := Arv.keep f_348 Kq136 (ninS ne_d2_b1_63 (ninS ne_d2_a2_91 nin0))
  have f_350 := Arv.ext f_349 E168
  have f_351 := Arv.keep f_350 Kq172 (ninS ne_d2_b1_63 (ninS ne_d2_a2_136 nin0))
  have f_352 := Arv.ext f_351 E259
  have f_353 := Arv.keep f_352 Kq263 (ninS ne_d2_b1_63 (ninS ne_d2_a2_172 nin0))
  have ne_d2_a2_298 : d2 ≠ a2_298 := own_neRel o298_0 ne_d2_a2_263 f_353.lt
  refine Good.back (fun _ k => st298.trans k) ?_
  have hl7 : (bs6 ++ (own_sd (1 : Int64))).length = bs6.length + 1 := by rw [List.length_append, show ((own_sd (1 : Int64))).length = 1 from (by rw [own_sdP (m := 1) rfl, own_dg1 (by decide)]; rfl)]
  obtain ⟨bs7, eb7⟩ : ∃ z, z = bs6 ++ (own_sd (1 : Int64)) := ⟨_, rfl⟩
  rw [← eb7] at o298_5 o298_6 o298_7 hl7
  refine Good.back (fun _ k => XS.bipush X298.here hx rfl (hb hby k3_6.1.1.1) k) ?_
  have f_355 := own_staKeep f_299 Kq298 (allS (own_plainE f_300) (allS (own_plainV o263_5) all0))
  have f_356 := Exa.keep f_300 Kq298
  obtain ⟨cq354, kq354, q354a, q354b, q354c⟩ := isOf hZ259 rfl f_356
  obtain ⟨_, _, ⟨T354, L354, k354, n354⟩, -, X354, ⟨Lc354, hQ354, l354, y354, z354⟩, st354⟩ := X298.virtualBack hx (y := y_24) (z := y_24) hown259 (mvT hZ259 (wd hw 182 rfl)) (mvT hZ259 (wd hw 183 rfl)) (notFace_of_selects (args := #[]) (mvT hZ259 (wd hw 185 rfl))) (mvT hZ259 (wd hw 185 rfl)) (mvT hZ259 (wd hw 184 rfl)) (by decide) (backOf (W := 0) (rm31 l Z a0 hw [] b1 cs a2_298 k2_298 z2_298 c2_298 bs7 T298.heap n0 Z327 f_355 (hcs) f_356 g_b1 o298_1 o298_2 o298_3 o298_4 o298_5 g_a2_298 (by first | assumption | decide) (by first | assumption | decide) (by have s1 := own_sdLen hvf; have s2 := own_sdLen hvl; have l9 : ([(46 : Int32)]).length = 1 := rfl; omega)) hZ259 (wd hw 186 rfl) (wd hw 18 rfl) (by decide) (by decide)) q354a q354c (g := (mkF m 142 (a_RJsRJsJsJs r0 1000000000 b1 1000000000 10 lq) [.int 46, .ref b1])) rfl (by rw [hml]; rfl) (Steps.refl _) (argsL := [(.int 46)]) (rest := []) (lenOf own_pd30 rfl) rfl (by show 2 * 0 + _ ≤ _; exact Nat.le_of_eq rfl) (hb hby k3_6.1.1.2) (fun _ _ => ⟨rfl, rfl, (by decide : 17 + 1 ≤ _), (by decide : 1592 + 200 ≤ _)⟩)
  dsimp only [Pt.U, Pt.locs, Pt.cells, Pt.slots] at X354 l354 y354 z354 st354 hQ354
  subst l354 y354 z354
  obtain ⟨a2_354, k2_354, z2_354, c2_354, rfl, N354q, Kq354, o354_0, o354_1, o354_2, o354_3, o354_4, o354_5, o354_6, o354_7⟩ := hQ354
  have N354 := Fr.app N298 N354q
  have Z357 : n0 ≤ T354.heap.size := Nat.le_trans Z327 Kq354.1
  have hk358 := Nat.le_trans hk328 Kq354.1
  have K359 : Keep h0 T354.heap [] := K329.trans Kq354 (allS (Or.inr sz_b1) (allS (Or.inr sz_a2_298) all0))
  have g_a2_354 : n0 ≤ a2_354 := own_rel o354_0 g_a2_298 Z327
  have sz_a2_354 : h0.size ≤ a2_354 := own_rel o354_0 sz_a2_298 K329.1
  have f_360 := Arv.ext V_d1 E1
  have f_361 := Arv.keep f_360 Kq9 (ninS ne_d1_b1_56 nin0)
  have f_362 := Arv.ext f_361 E18
  have f_363 := Arv.keep f_362 Kq22 (ninS ne_d1_b1_56 (ninS ne_d1_a2_9_60 nin0))
  have f_364 := Arv.keep f_363 Kq43 (ninS ne_d1_b1_56 (ninS ne_d1_a2_22_68 nin0))
  have f_365 := Arv.ext f_364 E87
  have f_366 := Arv.keep f_365 Kq91 (ninS ne_d1_b1_56 (ninS ne_d1_a2_43 nin0))
  have f_367 := Arv.keep f_366 Kq136 (ninS ne_d1_b1_56 (ninS ne_d1_a2_91 nin0))
  have f_368 := Arv.ext f_367 E168
  have f_369 := Arv.keep f_368 Kq172 (ninS ne_d1_b1_56 (ninS ne_d1_a2_136 nin0))
  have f_370 := Arv.ext f_369 E259
  have f_371 := Arv.keep f_370 Kq263 (ninS ne_d1_b1_56 (ninS ne_d1_a2_172 nin0))
  have f_372 := Arv.keep f_371 Kq298 (ninS ne_d1_b1_56 (ninS ne_d1_a2_263 nin0))
  have ne_d1_a2_354 : d1 ≠ a2_354 := own_neRel o354_0 ne_d1_a2_298 f_372.lt
  have f_373 := Arv.ext V_d2 E1
  have f_374 := Arv.keep f_373 Kq9 (ninS ne_d2_b1_63 nin0)
  have f_375 := Arv.ext f_374 E18
  have f_376 := Arv.keep f_375 Kq22 (ninS ne_d2_b1_63 (ninS ne_d2_a2_9_67 nin0))
  have f_377 := Arv.keep f_376 Kq43 (ninS ne_d2_b1_63 (ninS ne_d2_a2_22_69 nin0))
  have f_378 := Arv.ext f_377 E87
  have f_379 := Arv.keep f_378 Kq91 (ninS ne_d2_b1_63 (ninS ne_d2_a2_43 nin0))
  have f_380 := Arv.keep f_379 Kq136 (ninS ne_d2_b1_63 (ninS ne_d2_a2_91 nin0))
  have f_381 := Arv.ext f_380 E168
  have f_382 := Arv.keep f_381 Kq172 (ninS ne_d2_b1_63 (ninS ne_d2_a2_136 nin0))
  have f_383 := Arv.ext f_382 E259
  have f_384 := Arv.keep f_383 Kq263 (ninS ne_d2_b1_63 (ninS ne_d2_a2_172 nin0))
  have f_385 := Arv.keep f_384 Kq298 (ninS ne_d2_b1_63 (ninS ne_d2_a2_263 nin0))
  have ne_d2_a2_354 : d2 ≠ a2_354 := own_neRel o354_0 ne_d2_a2_298 f_385.lt
  refine Good.back (fun _ k => st354.trans k) ?_
  have hl8 : (bs7 ++ [(46 : Int32)]).length = bs7.length + 1 := by rw [List.length_append, show ([(46 : Int32)]).length = 1 from rfl]
  obtain ⟨bs8, eb8⟩ : ∃ z, z = bs7 ++ [(46 : Int32)] := ⟨_, rfl⟩
  rw [← eb8] at o354_5 o354_6 o354_7 hl8
  refine Good.back (fun _ k => XS.lload X354.here hx rfl (hb hby k3_6.1.2.1) rfl k) ?_
  refine Good.back (X354.ldc2Long hx hown259 (mvT hZ259 (wd hw 181 rfl)) (g := (mkF m 147 (a_RJsRJsJsJs r0 1000000000 b1 1000000000 10 lq) [.long 10, .ref b1])) rfl (hb hby k3_6.1.2.2)) ?_
  refine Good.back (fun _ k => XS.lrem X354.here hx rfl (hb hby k3_6.2.1.1) rfl (by decide) k) ?_
  show Good p e below _ (T354.setTop (mkF m 151 (a_RJsRJsJsJs r0 1000000000 b1 1000000000 10 lq) [.long ((10 : Int64) - ((10 : Int64) / (10 : Int64)) * (10 : Int64)), .ref b1]))
  rw [show (((10 : Int64) - ((10 : Int64) / (10 : Int64)) * (10 : Int64)) : Int64) = (0 : Int64) from by decide]
  show Good p e below _ (T354.setTop (mkF m 151 (a_RJsRJsJsJs r0 1000000000 b1 1000000000 10 lq) [.long 0, .ref b1]))
  have f_387 := own_staKeep f_355 Kq354 (allS (own_plainE f_356) (allS (own_plainV o298_5) all0))
  have f_388 := Exa.keep f_356 Kq354
  have f_389 := own_staKeep f_305 Kq298 (allS (own_plainE f_300) (allS (own_plainV o263_5) all0))
  have f_390 := own_staKeep f_389 Kq354 (allS (own_plainE f_356) (allS (own_plainV o298_5) all0))
  have f_391 := own_staKeep f_313 Kq298 (allS (own_plainE f_300) (allS (own_plainV o263_5) all0))
  have f_392 := own_staKeep f_391 Kq354 (allS (own_plainE f_356) (allS (own_plainV o298_5) all0))
  have f_393 := Arv.keep f_318 Kq298 (ninS ne_d1_b1_56 (ninS ne_d1_a2_263 nin0))
  have f_394 := Arv.keep f_393 Kq354 (ninS ne_d1_b1_56 (ninS ne_d1_a2_298 nin0))
  have f_395 := Arv.keep f_326 Kq298 (ninS ne_d2_b1_63 (ninS ne_d2_a2_263 nin0))
  have f_396 := Arv.keep f_395 Kq354 (ninS ne_d2_b1_63 (ninS ne_d2_a2_298 nin0))
  obtain ⟨cq386, kq386, q386a, q386b, q386c⟩ := isOf hZ259 rfl f_388
  obtain ⟨_, _, ⟨T386, L386, k386, n386⟩, -, X386, ⟨Lc386, hQ386, l386, y386, z386⟩, st386⟩ := X354.virtualBack hx (y := y_17) (z := y_17) hown259 (mvT hZ259 (wd hw 94 rfl)) (mvT hZ259 (wd hw 95 rfl)) (notFace_of_selects (args := #[]) (mvT hZ259 (wd hw 97 rfl))) (mvT hZ259 (wd hw 97 rfl)) (mvT hZ259 (wd hw 96 rfl)) (by decide) (backOf (W := 0) (rm14 l Z a0 hw [] b1 (0 : Int64) cs a2_354 k2_354 z2_354 c2_354 bs8 d1 d2 kd1 kd2 T354.heap n0 Z357 f_387 (hcs) f_388 g_b1 o354_1 o354_2 o354_3 o354_4 o354_5 g_a2_354 (by first | assumption | decide) (by first | assumption | decide) (by decide) f_390 f_392 f_394 f_396 ne_d1_a2_354 ne_d2_a2_354 (by have s1 := own_sdLen hvf; have s2 := own_sdLen hvl; have l9 : ((own_sd (0 : Int64))).length = 1 := (by rw [own_sdP (m := 0) rfl, own_dg1 (by decide)]; rfl); omega)) hZ259 (wd hw 98 rfl) (wd hw 18 rfl) (by decide) (by decide)) q386a q386c (g := (mkF m 151 (a_RJsRJsJsJs r0 1000000000 b1 1000000000 10 lq) [.long 0, .ref b1])) rfl (by rw [hml]; rfl) (Steps.refl _) (argsL := [(.long 0)]) (rest := []) (lenOf own_pd27 rfl) rfl (by show 2 * 0 + _ ≤ _; exact Nat.le_of_eq rfl) (hb hby k3_6.2.1.2) (fun _ _ => ⟨rfl, rfl, (by decide : 18 + 1 ≤ _), (by decide : 1792 + 200 ≤ _)⟩)
  dsimp only [Pt.U, Pt.locs, Pt.cells, Pt.slots] at X386 l386 y386 z386 st386 hQ386
  subst l386 y386 z386
  obtain ⟨a2_386, k2_386, z2_386, c2_386, rfl, N386q, Kq386, o386_0, o386_1, o386_2, o386_3, o386_4, o386_5, o386_6, o386_7⟩ := hQ386
  have N386 := Fr.app N354 N386q
  have Z397 : n0 ≤ T386.heap.size := Nat.le_trans Z357 Kq386.1
  have hk398 := Nat.le_trans hk358 Kq386.1
  have K399 : Keep h0 T386.heap [] := K359.trans Kq386 (allS (Or.inr sz_b1) (allS (Or.inr sz_a2_354) all0))
  have g_a2_386 : n0 ≤ a2_386 := own_rel o386_0 g_a2_354 Z357
  have sz_a2_386 : h0.size ≤ a2_386 := own_rel o386_0 sz_a2_354 K359.1
  have f_400 := Arv.ext V_d1 E1
  have f_401 := Arv.keep f_400 Kq9 (ninS ne_d1_b1_56 nin0)
  have f_402 := Arv.ext f_401 E18
  have f_403 := Arv.keep f_402 Kq22 (ninS ne_d1_b1_56 (ninS ne_d1_a2_9_60 nin0))
  have f_404 := Arv.keep f_403 Kq43 (ninS ne_d1_b1_56 (ninS ne_d1_a2_22_68 nin0))
  have f_405 := Arv.ext f_404 E87
  have f_406 := Arv.keep f_405 Kq91 (ninS ne_d1_b1_56 (ninS ne_d1_a2_43 nin0))
  have f_407 := Arv.keep f_406 Kq136 (ninS ne_d1_b1_56 (ninS ne_d1_a2_91 nin0))
  have f_408 := Arv.ext f_407 E168
  have f_409 := Arv.keep f_408 Kq172 (ninS ne_d1_b1_56 (ninS ne_d1_a2_136 nin0))
  have f_410 := Arv.ext f_409 E259
  have f_411 := Arv.keep f_410 Kq263 (ninS ne_d1_b1_56 (ninS ne_d1_a2_172 nin0))
  have f_412 := Arv.keep f_411 Kq298 (ninS ne_d1_b1_56 (ninS ne_d1_a2_263 nin0))
  have f_413 := Arv.keep f_412 Kq354 (ninS ne_d1_b1_56 (ninS ne_d1_a2_298 nin0))
  have ne_d1_a2_386 : d1 ≠ a2_386 := own_neRel o386_0 ne_d1_a2_354 f_413.lt
  have f_414 := Arv.ext V_d2 E1
  have f_415 := Arv.keep f_414 Kq9 (ninS ne_d2_b1_63 nin0)
  have f_416 := Arv.ext f_415 E18
  have f_417 := Arv.keep f_416 Kq22 (ninS ne_d2_b1_63 (ninS ne_d2_a2_9_67 nin0))
  have f_418 := Arv.keep f_417 Kq43 (ninS ne_d2_b1_63 (ninS ne_d2_a2_22_69 nin0))
  have f_419 := Arv.ext f_418 E87
  have f_420 := Arv.keep f_419 Kq91 (ninS ne_d2_b1_63 (ninS ne_d2_a2_43 nin0))
  have f_421 := Arv.keep f_420 Kq136 (ninS ne_d2_b1_63 (ninS ne_d2_a2_91 nin0))
  have f_422 := Arv.ext f_421 E168
  have f_423 := Arv.keep f_422 Kq172 (ninS ne_d2_b1_63 (ninS ne_d2_a2_136 nin0))
  have f_424 := Arv.ext f_423 E259
  have f_425 := Arv.keep f_424 Kq263 (ninS ne_d2_b1_63 (ninS ne_d2_a2_172 nin0))
  have f_426 := Arv.keep f_425 Kq298 (ninS ne_d2_b1_63 (ninS ne_d2_a2_263 nin0))
  have f_427 := Arv.keep f_426 Kq354 (ninS ne_d2_b1_63 (ninS ne_d2_a2_298 nin0))
  have ne_d2_a2_386 : d2 ≠ a2_386 := own_neRel o386_0 ne_d2_a2_354 f_427.lt
  refine Good.back (fun _ k => st386.trans k) ?_
  have hl9 : (bs8 ++ (own_sd (0 : Int64))).length = bs8.length + 1 := by rw [List.length_append, show ((own_sd (0 : Int64))).length = 1 from (by rw [own_sdP (m := 0) rfl, own_dg1 (by decide)]; rfl)]
  obtain ⟨bs9, eb9⟩ : ∃ z, z = bs8 ++ (own_sd (0 : Int64)) := ⟨_, rfl⟩
  rw [← eb9] at o386_5 o386_6 o386_7 hl9
  have Sf429 := own_relS o263_0 Sf259
  have C428 := C259.trans (CHr.keep Kq263 (sfS (Safe.exa hZ259.alike f_267 (by decide) (by decide)) (sfS Sf259 sf0)) C259.1)
  have Sf430 := Safe.keep Kq263 (sfS (Safe.exa hZ259.alike f_267 (by decide) (by decide)) (sfS Sf259 sf0)) C259.1 Sf429
  have Sf432 := own_relS o298_0 Sf430
  have C431 := C428.trans (CHr.keep Kq298 (sfS (Safe.exa hZ259.alike f_300 (by decide) (by decide)) (sfS Sf430 sf0)) C428.1)
  have Sf433 := Safe.keep Kq298 (sfS (Safe.exa hZ259.alike f_300 (by decide) (by decide)) (sfS Sf430 sf0)) C428.1 Sf432
  have Sf435 := own_relS o354_0 Sf433
  have C434 := C431.trans (CHr.keep Kq354 (sfS (Safe.exa hZ259.alike f_356 (by decide) (by decide)) (sfS Sf433 sf0)) C431.1)
  have Sf436 := Safe.keep Kq354 (sfS (Safe.exa hZ259.alike f_356 (by decide) (by decide)) (sfS Sf433 sf0)) C431.1 Sf435
  have Sf438 := own_relS o386_0 Sf436
  have C437 := C434.trans (CHr.keep Kq386 (sfS (Safe.exa hZ259.alike f_388 (by decide) (by decide)) (sfS Sf436 sf0)) C434.1)
  have Sf439 := Safe.keep Kq386 (sfS (Safe.exa hZ259.alike f_388 (by decide) (by decide)) (sfS Sf436 sf0)) C434.1 Sf438
  obtain ⟨a440, T440, h440, kc440, bl440, kl440, X440, e440, E440, hS440, hk440, hZ440, hown440, q440E, q440C, q440V, q440A, -, -, Cc440, -, -, st440⟩ := ldcCH X386 hx hZ259 hown259 (wd hw 195 rfl) (own_wS hw) rfl hS259 hk398 (own_EW hw) (List.mem_of_getElem? (i := 4) rfl) C437.1 (vs := [(.int 32), (.int 115), (.int 44), (.int 32)]) (z := (4 : Int32)) ⟨by decide, by decide⟩ (by decide) (by decide) (g := (mkF m 154 (a_RJsRJsJsJs r0 1000000000 b1 1000000000 10 lq) [.ref b1])) rfl (hb hby k3_6.2.2.1) (n := 16) (by decide +kernel) (by decide) (by decide) (by decide)
  refine Good.back st440 ?_
  have C440 := C437.trans Cc440
  have Sf440 := CHr.safe Cc440 o386_5.lt Sf439
  have Z441 : n0 ≤ h440.size := Nat.le_trans Z397 E440.1
  have hk442 := Nat.le_trans hk398 E440.1
  have K443 : Keep h0 h440 [] := K399.ext E440
  have f_445 := own_staKeep f_387 Kq386 (allS (own_plainE f_388) (allS (own_plainV o354_5) all0))
  have f_446 := Sta.ext E440 f_445
  have f_447 := Exa.keep f_388 Kq386
  have f_448 := Exa.ext E440 f_447
  have f_449 := Fld.ext E440 o386_1
  have f_450 := Fld.ext E440 o386_2
  have f_451 := Fld.ext E440 o386_3
  have f_452 := Exa.ext E440 o386_4
  have f_453 := Arv.ext o386_5 E440
  obtain ⟨cq444, kq444, q444a, q444b, q444c⟩ := isOf hZ440 e440 f_448
  obtain ⟨_, _, ⟨T444, L444, k444, n444⟩, -, X444, ⟨Lc444, hQ444, l444, y444, z444⟩, st444⟩ := X440.virtualBack hx (y := y_12) (z := y_12) hown440 (mvT hZ440 (wd hw 42 rfl)) (mvT hZ440 (wd hw 43 rfl)) (notFace_of_selects (args := #[]) (mvT hZ440 (wd hw 45 rfl))) (mvT hZ440 (wd hw 45 rfl)) (mvT hZ440 (wd hw 44 rfl)) (by decide) (backOf (W := 0) (rm6 l Z a0 hw [] b1 a440 cs bl440 kl440 (4 : Int32) own_t71 a2_386 k2_386 z2_386 c2_386 bs9 h440 n0 Z441 f_446 (hcs) f_448 g_b1 f_449 f_450 f_451 f_452 f_453 g_a2_386 (by first | assumption | decide) (by first | assumption | decide) q440E q440V q440C q440A (rfl) (by have s1 := own_sdLen hvf; have s2 := own_sdLen hvl; have l9 : (own_t71).length = 4 := rfl; omega)) hZ440 (wd hw 46 rfl) (wd hw 18 rfl) (by decide) (by decide)) q444a q444c (g := (mkF m 156 (a_RJsRJsJsJs r0 1000000000 b1 1000000000 10 lq) [.ref a440, .ref b1])) rfl (by rw [hml]; rfl) (Steps.refl _) (argsL := [(.ref a440)]) (rest := []) (lenOf own_pd26 rfl) rfl (by show 2 * 0 + _ ≤ _; exact Nat.le_of_eq rfl) (hb hby k3_6.2.2.2) (fun _ _ => ⟨rfl, e440, (by decide : 21 + 1 ≤ _), (by decide : 2012 + 200 ≤ _)⟩)
  dsimp only [Pt.U, Pt.locs, Pt.cells, Pt.slots] at X444 l444 y444 z444 st444 hQ444
  subst l444 y444 z444
  obtain ⟨a2_444, k2_444, z2_444, c2_444, rfl, N444q, Kq444, o444_0, o444_1, o444_2, o444_3, o444_4, o444_5, o444_6, o444_7⟩ := hQ444
  have N444 := Fr.app N386 N444q
  have Z454 : n0 ≤ T444.heap.size := Nat.le_trans Z441 Kq444.1
  have hk455 := Nat.le_trans hk440 Kq444.1
  have K456 : Keep h0 T444.heap [] := K443.trans Kq444 (allS (Or.inr sz_b1) (allS (Or.inr sz_a2_386) all0))
  have g_a2_444 : n0 ≤ a2_444 := own_rel o444_0 g_a2_386 Z441
  have sz_a2_444 : h0.size ≤ a2_444 := own_rel o444_0 sz_a2_386 K443.1
  have f_457 := Arv.ext V_d1 E1
  have f_458 := Arv.keep f_457 Kq9 (ninS ne_d1_b1_56 nin0)
  have f_459 := Arv.ext f_458 E18
  have f_460 := Arv.keep f_459 Kq22 (ninS ne_d1_b1_56 (ninS ne_d1_a2_9_60 nin0))
  have f_461 := Arv.keep f_460 Kq43 (ninS ne_d1_b1_56 (ninS ne_d1_a2_22_68 nin0))
  have f_462 := Arv.ext f_461 E87
  have f_463 := Arv.keep f_462 Kq91 (ninS ne_d1_b1_56 (ninS ne_d1_a2_43 nin0))
  have f_464 := Arv.keep f_463 Kq136 (ninS ne_d1_b1_56 (ninS ne_d1_a2_91 nin0))
  have f_465 := Arv.ext f_464 E168
  have f_466 := Arv.keep f_465 Kq172 (ninS ne_d1_b1_56 (ninS ne_d1_a2_136 nin0))
  have f_467 := Arv.ext f_466 E259
  have f_468 := Arv.keep f_467 Kq263 (ninS ne_d1_b1_56 (ninS ne_d1_a2_172 nin0))
  have f_469 := Arv.keep f_468 Kq298 (ninS ne_d1_b1_56 (ninS ne_d1_a2_263 nin0))
  have f_470 := Arv.keep f_469 Kq354 (ninS ne_d1_b1_56 (ninS ne_d1_a2_298 nin0))
  have f_471 := Arv.keep f_470 Kq386 (ninS ne_d1_b1_56 (ninS ne_d1_a2_354 nin0))
  have f_472 := Arv.ext f_471 E440
  have ne_d1_a2_444 : d1 ≠ a2_444 := own_neRel o444_0 ne_d1_a2_386 f_472.lt
  have f_473 := Arv.ext V_d2 E1
  have f_474 := Arv.keep f_473 Kq9 (ninS ne_d2_b1_63 nin0)
  have f_475 := Arv.ext f_474 E18
  have f_476 := Arv.keep f_475 Kq22 (ninS ne_d2_b1_63 (ninS ne_d2_a2_9_67 nin0))
  have f_477 := Arv.keep f_476 Kq43 (ninS ne_d2_b1_63 (ninS ne_d2_a2_22_69 nin0))
  have f_478 := Arv.ext f_477 E87
  have f_479 := Arv.keep f_478 Kq91 (ninS ne_d2_b1_63 (ninS ne_d2_a2_43 nin0))
  have f_480 := Arv.keep f_479 Kq136 (ninS ne_d2_b1_63 (ninS ne_d2_a2_91 nin0))
  have f_481 := Arv.ext f_480 E168
  have f_482 := Arv.keep f_481 Kq172 (ninS ne_d2_b1_63 (ninS ne_d2_a2_136 nin0))
  have f_483 := Arv.ext f_482 E259
  have f_484 := Arv.keep f_483 Kq263 (ninS ne_d2_b1_63 (ninS ne_d2_a2_172 nin0))
  have f_485 := Arv.keep f_484 Kq298 (ninS ne_d2_b1_63 (ninS ne_d2_a2_263 nin0))
  have f_486 := Arv.keep f_485 Kq354 (ninS ne_d2_b1_63 (ninS ne_d2_a2_298 nin0))
  have f_487 := Arv.keep f_486 Kq386 (ninS ne_d2_b1_63 (ninS ne_d2_a2_354 nin0))
  have f_488 := Arv.ext f_487 E440
  have ne_d2_a2_444 : d2 ≠ a2_444 := own_neRel o444_0 ne_d2_a2_386 f_488.lt
  refine Good.back (fun _ k => st444.trans k) ?_
  have hl10 : (bs9 ++ own_t71).length = bs9.length + 4 := by rw [List.length_append, show (own_t71).length = 4 from rfl]
  obtain ⟨bs10, eb10⟩ : ∃ z, z = bs9 ++ own_t71 := ⟨_, rfl⟩
  rw [← eb10] at o444_5 o444_6 o444_7 hl10
  refine Good.back (fun _ k => XS.lload X444.here hx rfl (hb hby k3_7.1.1.1) rfl k) ?_
  have f_490 := own_staKeep f_446 Kq444 (allS (own_plainE f_448) (allS (own_plainV f_453) all0))
  have f_491 := Exa.keep f_448 Kq444
  have f_492 := own_staKeep f_390 Kq386 (allS (own_plainE f_388) (allS (own_plainV o354_5) all0))
  have f_493 := Sta.ext E440 f_492
  have f_494 := own_staKeep f_493 Kq444 (allS (own_plainE f_448) (allS (own_plainV f_453) all0))
  have f_495 := own_staKeep f_392 Kq386 (allS (own_plainE f_388) (allS (own_plainV o354_5) all0))
  have f_496 := Sta.ext E440 f_495
  have f_497 := own_staKeep f_496 Kq444 (allS (own_plainE f_448) (allS (own_plainV f_453) all0))
  have f_498 := Arv.keep f_394 Kq386 (ninS ne_d1_b1_56 (ninS ne_d1_a2_354 nin0))
  have f_499 := Arv.ext f_498 E440
  have f_500 := Arv.keep f_499 Kq444 (ninS ne_d1_b1_56 (ninS ne_d1_a2_386 nin0))
  have f_501 := Arv.keep f_396 Kq386 (ninS ne_d2_b1_63 (ninS ne_d2_a2_354 nin0))
  have f_502 := Arv.ext f_501 E440
  have f_503 := Arv.keep f_502 Kq444 (ninS ne_d2_b1_63 (ninS ne_d2_a2_386 nin0))
  obtain ⟨cq489, kq489, q489a, q489b, q489c⟩ := isOf hZ440 rfl f_491
  obtain ⟨_, _, ⟨T489, L489, k489, n489⟩, -, X489, ⟨Lc489, hQ489, l489, y489, z489⟩, st489⟩ := X444.virtualBack hx (y := y_17) (z := y_17) hown440 (mvT hZ440 (wd hw 94 rfl)) (mvT hZ440 (wd hw 95 rfl)) (notFace_of_selects (args := #[]) (mvT hZ440 (wd hw 97 rfl))) (mvT hZ440 (wd hw 97 rfl)) (mvT hZ440 (wd hw 96 rfl)) (by decide) (backOf (W := 0) (rm14 l Z a0 hw [] b1 lq cs a2_444 k2_444 z2_444 c2_444 bs10 d1 d2 kd1 kd2 T444.heap n0 Z454 f_490 (hcs) f_491 g_b1 o444_1 o444_2 o444_3 o444_4 o444_5 g_a2_444 (by first | assumption | decide) (by first | assumption | decide) (hvl) f_494 f_497 f_500 f_503 ne_d1_a2_444 ne_d2_a2_444 (by have s1 := own_sdLen hvf; have s2 := own_sdLen hvl; have l9 : ((own_sd lq)).length = (own_sd lq).length := rfl; omega)) hZ440 (wd hw 98 rfl) (wd hw 18 rfl) (by decide) (by decide)) q489a q489c (g := (mkF m 161 (a_RJsRJsJsJs r0 1000000000 b1 1000000000 10 lq) [.long lq, .ref b1])) rfl (by rw [hml]; rfl) (Steps.refl _) (argsL := [(.long lq)]) (rest := []) (lenOf own_pd27 rfl) rfl (by show 2 * 0 + _ ≤ _; exact Nat.le_of_eq rfl) (hb hby k3_7.1.1.2) (fun _ _ => ⟨rfl, rfl, (by decide : 22 + 1 ≤ _), (by decide : 2212 + 200 ≤ _)⟩)
  dsimp only [Pt.U, Pt.locs, Pt.cells, Pt.slots] at X489 l489 y489 z489 st489 hQ489
  subst l489 y489 z489
  obtain ⟨a2_489, k2_489, z2_489, c2_489, rfl, N489q, Kq489, o489_0, o489_1, o489_2, o489_3, o489_4, o489_5, o489_6, o489_7⟩ := hQ489
  have N489 := Fr.app N444 N489q
  have Z504 : n0 ≤ T489.heap.size := Nat.le_trans Z454 Kq489.1
  have hk505 := Nat.le_trans hk455 Kq489.1
  have K506 : Keep h0 T489.heap [] := K456.trans Kq489 (allS (Or.inr sz_b1) (allS (Or.inr sz_a2_444) all0))
  have g_a2_489 : n0 ≤ a2_489 := own_rel o489_0 g_a2_444 Z454
  have sz_a2_489 : h0.size ≤ a2_489 := own_rel o489_0 sz_a2_444 K456.1
  have f_507 := Arv.ext V_d1 E1
  have f_508 := Arv.keep f_507 Kq9 (ninS ne_d1_b1_56 nin0)
  have f_509 := Arv.ext f_508 E18
  have f_510 := Arv.keep f_509 Kq22 (ninS ne_d1_b1_56 (ninS ne_d1_a2_9_60 nin0))
  have f_511 := Arv.keep f_510 Kq43 (ninS ne_d1_b1_56 (ninS ne_d1_a2_22_68 nin0))
  have f_512 := Arv.ext f_511 E87
  have f_513 := Arv.keep f_512 Kq91 (ninS ne_d1_b1_56 (ninS ne_d1_a2_43 nin0))
  have f_514 := Arv.keep f_513 Kq136 (ninS ne_d1_b1_56 (ninS ne_d1_a2_91 nin0))
  have f_515 := Arv.ext f_514 E168
  have f_516 := Arv.keep f_515 Kq172 (ninS ne_d1_b1_56 (ninS ne_d1_a2_136 nin0))
  have f_517 := Arv.ext f_516 E259
  have f_518 := Arv.keep f_517 Kq263 (ninS ne_d1_b1_56 (ninS ne_d1_a2_172 nin0))
  have f_519 := Arv.keep f_518 Kq298 (ninS ne_d1_b1_56 (ninS ne_d1_a2_263 nin0))
  have f_520 := Arv.keep f_519 Kq354 (ninS ne_d1_b1_56 (ninS ne_d1_a2_298 nin0))
  have f_521 := Arv.keep f_520 Kq386 (ninS ne_d1_b1_56 (ninS ne_d1_a2_354 nin0))
  have f_522 := Arv.ext f_521 E440
  have f_523 := Arv.keep f_522 Kq444 (ninS ne_d1_b1_56 (ninS ne_d1_a2_386 nin0))
  have ne_d1_a2_489 : d1 ≠ a2_489 := own_neRel o489_0 ne_d1_a2_444 f_523.lt
  have f_524 := Arv.ext V_d2 E1
  have f_525 := Arv.keep f_524 Kq9 (ninS ne_d2_b1_63 nin0)
  have f_526 := Arv.ext f_525 E18
  have f_527 := Arv.keep f_526 Kq22 (ninS ne_d2_b1_63 (ninS ne_d2_a2_9_67 nin0))
  have f_528 := Arv.keep f_527 Kq43 (ninS ne_d2_b1_63 (ninS ne_d2_a2_22_69 nin0))
  have f_529 := Arv.ext f_528 E87
  have f_530 := Arv.keep f_529 Kq91 (ninS ne_d2_b1_63 (ninS ne_d2_a2_43 nin0))
  have f_531 := Arv.keep f_530 Kq136 (ninS ne_d2_b1_63 (ninS ne_d2_a2_91 nin0))
  have f_532 := Arv.ext f_531 E168
  have f_533 := Arv.keep f_532 Kq172 (ninS ne_d2_b1_63 (ninS ne_d2_a2_136 nin0))
  have f_534 := Arv.ext f_533 E259
  have f_535 := Arv.keep f_534 Kq263 (ninS ne_d2_b1_63 (ninS ne_d2_a2_172 nin0))
  have f_536 := Arv.keep f_535 Kq298 (ninS ne_d2_b1_63 (ninS ne_d2_a2_263 nin0))
  have f_537 := Arv.keep f_536 Kq354 (ninS ne_d2_b1_63 (ninS ne_d2_a2_298 nin0))
  have f_538 := Arv.keep f_537 Kq386 (ninS ne_d2_b1_63 (ninS ne_d2_a2_354 nin0))
  have f_539 := Arv.ext f_538 E440
  have f_540 := Arv.keep f_539 Kq444 (ninS ne_d2_b1_63 (ninS ne_d2_a2_386 nin0))
  have ne_d2_a2_489 : d2 ≠ a2_489 := own_neRel o489_0 ne_d2_a2_444 f_540.lt
  refine Good.back (fun _ k => st489.trans k) ?_
  have hl11 : (bs10 ++ (own_sd lq)).length = bs10.length + (own_sd lq).length := by rw [List.length_append, show ((own_sd lq)).length = (own_sd lq).length from rfl]
  obtain ⟨bs11, eb11⟩ : ∃ z, z = bs10 ++ (own_sd lq) := ⟨_, rfl⟩
  rw [← eb11] at o489_5 o489_6 o489_7 hl11
  have Sf542 := own_relS o444_0 Sf440
  have C541 := C440.trans (CHr.keep Kq444 (sfS (Safe.exa hZ440.alike f_448 (by decide) (by decide)) (sfS Sf440 sf0)) C440.1)
  have Sf543 := Safe.keep Kq444 (sfS (Safe.exa hZ440.alike f_448 (by decide) (by decide)) (sfS Sf440 sf0)) C440.1 Sf542
  have Sf545 := own_relS o489_0 Sf543
  have C544 := C541.trans (CHr.keep Kq489 (sfS (Safe.exa hZ440.alike f_491 (by decide) (by decide)) (sfS Sf543 sf0)) C541.1)
  have Sf546 := Safe.keep Kq489 (sfS (Safe.exa hZ440.alike f_491 (by decide) (by decide)) (sfS Sf543 sf0)) C541.1 Sf545
  obtain ⟨a547, T547, h547, kc547, bl547, kl547, X547, e547, E547, hS547, hk547, hZ547, hown547, q547E, q547C, q547V, q547A, -, -, Cc547, -, -, st547⟩ := ldcCH X489 hx hZ440 hown440 (wd hw 196 rfl) (own_wS hw) rfl hS440 hk505 (own_EW hw) (List.mem_of_getElem? (i := 5) rfl) C544.1 (vs := [(.int 32), (.int 108), (.int 105), (.int 110), (.int 101), (.int 115), (.int 47), (.int 115), (.int 10)]) (z := (9 : Int32)) ⟨by decide, by decide⟩ (by decide) (by decide) (g := (mkF m 164 (a_RJsRJsJsJs r0 1000000000 b1 1000000000 10 lq) [.ref b1])) rfl (hb hby k3_7.1.2.1) (n := 36) (by decide +kernel) (by decide) (by decide) (by decide)
  refine Good.back st547 ?_
  have C547 := C544.trans Cc547
  have Sf547 := CHr.safe Cc547 o489_5.lt Sf546
  have Z548 : n0 ≤ h547.size := Nat.le_trans Z504 E547.1
  have hk549 := Nat.le_trans hk505 E547.1
  have K550 : Keep h0 h547 [] := K506.ext E547
  have f_552 := own_staKeep f_490 Kq489 (allS (own_plainE f_491) (allS (own_plainV o444_5) all0))
  have f_553 := Sta.ext E547 f_552
  have f_554 := Exa.keep f_491 Kq489
  have f_555 := Exa.ext E547 f_554
  have f_556 := Fld.ext E547 o489_1
  have f_557 := Fld.ext E547 o489_2
  have f_558 := Fld.ext E547 o489_3
  have f_559 := Exa.ext E547 o489_4
  have f_560 := Arv.ext o489_5 E547
  obtain ⟨cq551, kq551, q551a, q551b, q551c⟩ := isOf hZ547 e547 f_555
  obtain ⟨_, _, ⟨T551, L551, k551, n551⟩, -, X551, ⟨Lc551, hQ551, l551, y551, z551⟩, st551⟩ := X547.virtualBack hx (y := y_12) (z := y_12) hown547 (mvT hZ547 (wd hw 42 rfl)) (mvT hZ547 (wd hw 43 rfl)) (notFace_of_selects (args := #[]) (mvT hZ547 (wd hw 45 rfl))) (mvT hZ547 (wd hw 45 rfl)) (mvT hZ547 (wd hw 44 rfl)) (by decide) (backOf (W := 0) (rm6 l Z a0 hw [] b1 a547 cs bl547 kl547 (9 : Int32) own_t73 a2_489 k2_489 z2_489 c2_489 bs11 h547 n0 Z548 f_553 (hcs) f_555 g_b1 f_556 f_557 f_558 f_559 f_560 g_a2_489 (by first | assumption | decide) (by first | assumption | decide) q547E q547V q547C q547A (rfl) (by have s1 := own_sdLen hvf; have s2 := own_sdLen hvl; have l9 : (own_t73).length = 9 := rfl; omega)) hZ547 (wd hw 46 rfl) (wd hw 18 rfl) (by decide) (by decide)) q551a q551c (g := (mkF m 166 (a_RJsRJsJsJs r0 1000000000 b1 1000000000 10 lq) [.ref a547, .ref b1])) rfl (by rw [hml]; rfl) (Steps.refl _) (argsL := [(.ref a547)]) (rest := []) (lenOf own_pd26 rfl) rfl (by show 2 * 0 + _ ≤ _; exact Nat.le_of_eq rfl) (hb hby k3_7.1.2.2) (fun _ _ => ⟨rfl, e547, (by decide : 25 + 1 ≤ _), (by decide : 2452 + 200 ≤ _)⟩)
  dsimp only [Pt.U, Pt.locs, Pt.cells, Pt.slots] at X551 l551 y551 z551 st551 hQ551
  subst l551 y551 z551
  obtain ⟨a2_551, k2_551, z2_551, c2_551, rfl, N551q, Kq551, o551_0, o551_1, o551_2, o551_3, o551_4, o551_5, o551_6, o551_7⟩ := hQ551
  have N551 := Fr.app N489 N551q
  have Z561 : n0 ≤ T551.heap.size := Nat.le_trans Z548 Kq551.1
  have hk562 := Nat.le_trans hk547 Kq551.1
  have K563 : Keep h0 T551.heap [] := K550.trans Kq551 (allS (Or.inr sz_b1) (allS (Or.inr sz_a2_489) all0))
  have g_a2_551 : n0 ≤ a2_551 := own_rel o551_0 g_a2_489 Z548
  have sz_a2_551 : h0.size ≤ a2_551 := own_rel o551_0 sz_a2_489 K550.1
  have f_564 := Arv.ext V_d1 E1
  have f_565 := Arv.keep f_564 Kq9 (ninS ne_d1_b1_56 nin0)
  have f_566 := Arv.ext f_565 E18
  have f_567 := Arv.keep f_566 Kq22 (ninS ne_d1_b1_56 (ninS ne_d1_a2_9_60 nin0))
  have f_568 := Arv.keep f_567 Kq43 (ninS ne_d1_b1_56 (ninS ne_d1_a2_22_68 nin0))
  have f_569 := Arv.ext f_568 E87
  have f_570 := Arv.keep f_569 Kq91 (ninS ne_d1_b1_56 (ninS ne_d1_a2_43 nin0))
  have f_571 := Arv.keep f_570 Kq136 (ninS ne_d1_b1_56 (ninS ne_d1_a2_91 nin0))
  have f_572 := Arv.ext f_571 E168
  have f_573 := Arv.keep f_572 Kq172 (ninS ne_d1_b1_56 (ninS ne_d1_a2_136 nin0))
  have f_574 := Arv.ext f_573 E259
  have f_575 := Arv.keep f_574 Kq263 (ninS ne_d1_b1_56 (ninS ne_d1_a2_172 nin0))
  have f_576 := Arv.keep f_575 Kq298 (ninS ne_d1_b1_56 (ninS ne_d1_a2_263 nin0))
  have f_577 := Arv.keep f_576 Kq354 (ninS ne_d1_b1_56 (ninS ne_d1_a2_298 nin0))
  have f_578 := Arv.keep f_577 Kq386 (ninS ne_d1_b1_56 (ninS ne_d1_a2_354 nin0))
  have f_579 := Arv.ext f_578 E440
  have f_580 := Arv.keep f_579 Kq444 (ninS ne_d1_b1_56 (ninS ne_d1_a2_386 nin0))
  have f_581 := Arv.keep f_580 Kq489 (ninS ne_d1_b1_56 (ninS ne_d1_a2_444 nin0))
  have f_582 := Arv.ext f_581 E547
  have ne_d1_a2_551 : d1 ≠ a2_551 := own_neRel o551_0 ne_d1_a2_489 f_582.lt
  have f_583 := Arv.ext V_d2 E1
  have f_584 := Arv.keep f_583 Kq9 (ninS ne_d2_b1_63 nin0)
  have f_585 := Arv.ext f_584 E18
  have f_586 := Arv.keep f_585 Kq22 (ninS ne_d2_b1_63 (ninS ne_d2_a2_9_67 nin0))
  have f_587 := Arv.keep f_586 Kq43 (ninS ne_d2_b1_63 (ninS ne_d2_a2_22_69 nin0))
  have f_588 := Arv.ext f_587 E87
  have f_589 := Arv.keep f_588 Kq91 (ninS ne_d2_b1_63 (ninS ne_d2_a2_43 nin0))
  have f_590 := Arv.keep f_589 Kq136 (ninS ne_d2_b1_63 (ninS ne_d2_a2_91 nin0))
  have f_591 := Arv.ext f_590 E168
  have f_592 := Arv.keep f_591 Kq172 (ninS ne_d2_b1_63 (ninS ne_d2_a2_136 nin0))
  have f_593 := Arv.ext f_592 E259
  have f_594 := Arv.keep f_593 Kq263 (ninS ne_d2_b1_63 (ninS ne_d2_a2_172 nin0))
  have f_595 := Arv.keep f_594 Kq298 (ninS ne_d2_b1_63 (ninS ne_d2_a2_263 nin0))
  have f_596 := Arv.keep f_595 Kq354 (ninS ne_d2_b1_63 (ninS ne_d2_a2_298 nin0))
  have f_597 := Arv.keep f_596 Kq386 (ninS ne_d2_b1_63 (ninS ne_d2_a2_354 nin0))
  have f_598 := Arv.ext f_597 E440
  have f_599 := Arv.keep f_598 Kq444 (ninS ne_d2_b1_63 (ninS ne_d2_a2_386 nin0))
  have f_600 := Arv.keep f_599 Kq489 (ninS ne_d2_b1_63 (ninS ne_d2_a2_444 nin0))
  have f_601 := Arv.ext f_600 E547
  have ne_d2_a2_551 : d2 ≠ a2_551 := own_neRel o551_0 ne_d2_a2_489 f_601.lt
  refine Good.back (fun _ k => st551.trans k) ?_
  have hl12 : (bs11 ++ own_t73).length = bs11.length + 9 := by rw [List.length_append, show (own_t73).length = 9 from rfl]
  obtain ⟨bs12, eb12⟩ : ∃ z, z = bs11 ++ own_t73 := ⟨_, rfl⟩
  rw [← eb12] at o551_5 o551_6 o551_7 hl12
  refine Good.back (fun _ k => XS.pop X551.here hx rfl (hb hby k3_7.2.1.1) rfl rfl k) ?_
  refine Good.back (fun _ k => XS.aloadN X551.here hx rfl (hb hby k3_7.2.1.2) rfl rfl k) ?_
  have f_603 := own_staKeep f_553 Kq551 (allS (own_plainE f_555) (allS (own_plainV f_560) all0))
  have f_604 := Exa.keep f_555 Kq551
  obtain ⟨cq602, kq602, q602a, q602b, q602c⟩ := isOf hZ547 rfl f_604
  obtain ⟨_, _, ⟨T602, L602, k602, n602⟩, -, X602, ⟨Lc602, hQ602, l602, y602, z602⟩, st602⟩ := X551.virtualBack hx (y := y_35) (z := y_35) hown547 (mvT hZ547 (wd hw 197 rfl)) (mvT hZ547 (wd hw 198 rfl)) (notFace_of_selects (args := #[]) (mvT hZ547 (wd hw 200 rfl))) (mvT hZ547 (wd hw 200 rfl)) (mvT hZ547 (wd hw 199 rfl)) (by decide) (backOf (W := 0) (rm34 l Z a0 hw [] b1 cs a2_551 k2_551 z2_551 c2_551 bs12 T551.heap n0 Z561 f_603 (hcs) f_604 o551_1 o551_2 o551_3 o551_4 o551_5 (by first | assumption | decide) (by first | assumption | decide)) hZ547 (wd hw 201 rfl) (wd hw 18 rfl) (by decide) (by decide)) q602a q602c (g := (mkF m 171 (a_RJsRJsJsJs r0 1000000000 b1 1000000000 10 lq) [.ref b1])) rfl (by rw [hml]; rfl) (Steps.refl _) (argsL := []) (rest := []) (lenOf own_pd31 rfl) rfl (by show 2 * 0 + _ ≤ _; exact Nat.le_of_eq rfl) (hb hby k3_7.2.2.1) (fun _ _ => ⟨rfl, rfl, (by decide : 26 + 2 ≤ _), (by decide : 2652 + 204 ≤ _)⟩)
  dsimp only [Pt.U, Pt.locs, Pt.cells, Pt.slots] at X602 l602 y602 z602 st602 hQ602
  subst l602 y602 z602
  obtain ⟨sr_602, a2_602, k2_602, z2_602, rfl, N602q, Kq602, o602_0, o602_1, o602_2, o602_3, o602_4, o602_5, o602_6, o602_7⟩ := hQ602
  have N602 := Fr.app N551 N602q
  have Z605 : n0 ≤ T602.heap.size := Nat.le_trans Z561 Kq602.1
  have hk606 := Nat.le_trans hk562 Kq602.1
  have K607 : Keep h0 T602.heap [] := K563.trans Kq602 all0
  have g_sr_602 : n0 ≤ sr_602 := Nat.le_trans Z561 o602_0
  have sz_sr_602 : h0.size ≤ sr_602 := Nat.le_trans K563.1 o602_0
  have g_a2_602 : n0 ≤ a2_602 := Nat.le_trans Z561 o602_4
  have sz_a2_602 : h0.size ≤ a2_602 := Nat.le_trans K563.1 o602_4
  refine Good.back (fun _ k => st602.trans k) ?_
  have eo : bs12 = own_out fq lq fi := by rw [eb12, eb11, eb10, eb9, eb8, eb7, eb6, eb5, eb4, eb3, eb2, eb1]; rfl
  rw [eo] at o602_6 o602_7
  show Good p e below _ (T602.setTop (mkF m 174 (a_RJsRJsJsJs r0 1000000000 b1 1000000000 10 lq) [.ref sr_602]))
  obtain ⟨fs608, hr608, hrun608, hended608, hRE608⟩ := leaveW X602 hS547 hk606 (v := some (.ref sr_602)) (fun h => by rw [Bd.returns] at h; cases h)
  have Sf610 := own_relS o551_0 Sf547
  have C609 := C547.trans (CHr.keep Kq551 (sfS (Safe.exa hZ547.alike f_555 (by decide) (by decide)) (sfS Sf547 sf0)) C547.1)
  have Sf611 := Safe.keep Kq551 (sfS (Safe.exa hZ547.alike f_555 (by decide) (by decide)) (sfS Sf547 sf0)) C547.1 Sf610
  have Sf613 : Safe Z own_EL T547.vm _ a2_602 := Safe.new o602_4
  have C612 := C609.trans (CHr.keep Kq602 sf0 C609.1)
  have Sf614 := Safe.keep Kq602 sf0 C609.1 Sf611
  have Sf615 := Safe.keep Kq602 sf0 C609.1 Sf613
  have hCH608 : CHr Z own_EL s.vm s.heap T602.vm T602.heap := by rw [hh]; exact C612.trans (CHv.at X602 hZ547 (own_EW hw) C612.1)
  refine Good.done (retOut X602 hx Bd.returns rfl (Or.inr (Or.inr (Or.inr (Or.inr ⟨rfl, rfl, rfl⟩)))) (hb hby k3_7.2.2.2) hr608) hrun608 hended608 ⟨_, _, rfl, ?_, hCH608, hRE608.1, hRE608.2.1, hRE608.2.2.1, hRE608.2.2.2.mono (by decide) (by decide)⟩
  show Q3 Z r0 cs fq lq fi d1 d2 kd1 kd2 h0 n0 _ T602.heap _
  exact ⟨sr_602, a2_602, k2_602, z2_602, rfl, N602, K607, sz_sr_602, o602_1, o602_2, o602_3, sz_a2_602, o602_6, (o602_7)⟩
section Own
def own_mid : List Int32 := own_t43 ++ (own_t64 ++ ([49, 46, 48] ++ own_t71))
theorem own_outE (fq lq : Int64) (fi : Int32) : own_out fq lq fi = own_t29 ++ (own_sd fq ++ (own_t38 ++ ([own_d1 fi] ++ (own_mid ++ (own_sd lq ++ own_t73))))) := by
  have e1 : own_sd (1 : Int64) = [49] := by rw [own_sdP (m := 1) rfl, own_dg1 (by decide)]; rfl
  have e0 : own_sd (0 : Int64) = [48] := by rw [own_sdP (m := 0) rfl, own_dg1 (by decide)]; rfl
  unfold own_out own_mid
  rw [e1, e0]
  simp only [List.nil_append, List.append_assoc, List.cons_append]
theorem own_apR {A B : List Int32} {n : Nat} (h : A.length = n) (i : Nat) : (A ++ B)[n + i]? = B[i]? := by
  rw [List.getElem?_append_right (by omega), h, Nat.add_sub_cancel_left]
theorem own_apL {A B : List Int32} {i : Nat} (h : i < A.length) : (A ++ B)[i]? = A[i]? := List.getElem?_append_left h
variable (fq lq : Int64) (fi : Int32)
theorem own_o1 : ∀ j, j < (own_sd fq).length → (own_out fq lq fi)[8 + j]? = (own_sd fq)[j]? := fun j h => by
  rw [own_outE]
  exact (own_apR (n := 8) rfl _).trans (own_apL h)
theorem own_o2 : ∀ j, j < 16 → (own_out fq lq fi)[8 + (own_sd fq).length + j]? = own_t38[j]? := fun j h => by
  rw [own_outE, show 8 + (own_sd fq).length + j = 8 + ((own_sd fq).length + j) by omega]
  exact (own_apR (n := 8) rfl _).trans ((own_apR (n := _) rfl _).trans (own_apL h))
theorem own_o3 : (own_out fq lq fi)[24 + (own_sd fq).length]? = some (own_d1 fi) := by
  rw [own_outE, show 24 + (own_sd fq).length = 8 + ((own_sd fq).length + (16 + 0)) by omega]
  exact (own_apR (n := 8) rfl _).trans ((own_apR (n := _) rfl _).trans ((own_apR (n := 16) rfl _).trans (rfl)))
theorem own_o4 : ∀ j, j < 22 → (own_out fq lq fi)[25 + (own_sd fq).length + j]? = own_mid[j]? := fun j h => by
  rw [own_outE, show 25 + (own_sd fq).length + j = 8 + ((own_sd fq).length + (16 + (1 + j))) by omega]
  exact (own_apR (n := 8) rfl _).trans ((own_apR (n := _) rfl _).trans ((own_apR (n := 16) rfl _).trans ((own_apR (n := 1) rfl _).trans (own_apL h))))
theorem own_o5 : ∀ j, j < (own_sd lq).length → (own_out fq lq fi)[47 + (own_sd fq).length + j]? = (own_sd lq)[j]? := fun j h => by
  rw [own_outE, show 47 + (own_sd fq).length + j = 8 + ((own_sd fq).length + (16 + (1 + (22 + j)))) by omega]
  exact (own_apR (n := 8) rfl _).trans ((own_apR (n := _) rfl _).trans ((own_apR (n := 16) rfl _).trans ((own_apR (n := 1) rfl _).trans ((own_apR (n := 22) rfl _).trans (own_apL h)))))
theorem own_o6 : (own_out fq lq fi)[47 + (own_sd fq).length + (own_sd lq).length]? = some 32 := by
  rw [own_outE, show 47 + (own_sd fq).length + (own_sd lq).length = 8 + ((own_sd fq).length + (16 + (1 + (22 + ((own_sd lq).length + 0))))) by omega]
  exact (own_apR (n := 8) rfl _).trans ((own_apR (n := _) rfl _).trans ((own_apR (n := 16) rfl _).trans ((own_apR (n := 1) rfl _).trans ((own_apR (n := 22) rfl _).trans ((own_apR (n := _) rfl _).trans (rfl))))))
theorem own_oL : (own_out fq lq fi).length = 56 + (own_sd fq).length + (own_sd lq).length := by
  rw [own_outE]
  simp only [List.length_append]
  rw [show own_t29.length = 8 from rfl, show own_t38.length = 16 from rfl, show [own_d1 fi].length = 1 from rfl, show own_mid.length = 22 from rfl, show own_t73.length = 9 from rfl]
  omega
end Own
theorem own_pn9 : plainName "jdk/internal/util/Preconditions" = true := by first | (simp [plainName, overriddenIn]; done) | decide +kernel
abbrev B50 := jdk_41_method_11_code
theorem k50_0 : ((own_A B50 0 (.iload_n 0) 1 ∧ own_A B50 1 (.ifCond .lt 8) 3) ∧ own_A B50 4 (.iload_n 0) 1 ∧ own_A B50 5 (.iload_n 1) 1) ∧ (own_A B50 6 (.if_icmp .lt 10) 3 ∧ own_A B50 16 (.iload_n 0) 1) ∧ own_A B50 17 .ireturn 1 := by decide +kernel
theorem own_ef_50 (m : MethodId) (x0 : Int32) (x1 : Int32) (x2 : Addr) : entryFrame m #[(.int x0), (.int x1), (.ref x2)] 3 = mkF m 0 #[.val (.int x0), .val (.int x1), .val (.ref x2)] [] := by first | (simp [entryFrame, mkF, argsToLocals, Value.category]; done) | rfl
def Q50 (Z : State) (p0 : Int32) (p1 : Int32) (r2 : Addr) (h0 : Heap) (n0 : Nat) (v : Option Value) (h : Heap) (L : List Loc) : Prop := v = some (.int p0) ∧ Fr n0 L ∧ h = h0
set_option maxRecDepth 65536 in
set_option maxHeartbeats 40000000 in
theorem rm50 (l : Launch) (Z : State) (a0 : Array Value) (hw : ∀ d ∈ tables_1, d.before a0 Z = true) (ws : List Jvm.Cond) (p0 : Int32) (p1 : Int32) (r2 : Addr) (h0 : Heap) (n0 : Nat) (Z0 : n0 ≤ h0.size) (h1 : ¬ (p0 < (0 : Int32))) (h2 : p0 < p1) :
    MetFree l y_42 (head1 (Jvm.Cond.code y_42 jdk_41_method_11_code 3 (some .int) :: ws) R_0) (fun a U => a = #[(.int p0), (.int p1), (.ref r2)] ∧ Z.Warmed39 U.vm ∧ U.heap = h0) (fun _ _ _ _ _ => True) (fun _ U o U' => ∃ v L, o = .returned v ∧ Q50 Z p0 p1 r2 h0 n0 v U'.heap L ∧ FrameEnd U o U' L R_0.cells R_0.slots) := by
  refine MetFree.of_bodySF (plainFor_of_name own_pn9) hisR ?_
  intro p e s m args below meth c s₁ Bd hml0 hP hK
  obtain ⟨rfl, hZ, hh⟩ := hP
  have hx := Bd.exec
  have hby := Bd.bytes
  have hml : c.maxLocals = 3 := hml0
  have hown : s.vm.findClass "jdk/internal/util/Preconditions" = some m.cls := findClass_of_methodNamed Bd.named
  have hnm := (name_of_methodNamed Bd.named Bd.method).1
  have X0 : Stand p l e R_0 s m #[(.int p0), (.int p1), (.ref r2)] below meth c s₁ [] 0 0 := Stand.of_body Bd
  have e0 : s₁.heap = h0 := by rw [← hh, Bd.state]; rfl
  have N0 := Fr.nil n0
  show Good p e below (fun o U' => ∃ v L, o = .returned v ∧ Q50 Z p0 p1 r2 h0 n0 v U'.heap L ∧ FrameEnd s o U' L R_0.cells R_0.slots) _
  refine Good.back (S' := s₁.setTop (mkF m 0 #[.val (.int p0), .val (.int p1), .val (.ref r2)] [])) (fun t k => castTop (own_ef_50 m p0 p1 r2) k) ?_
  show Good p e below _ (s₁.setTop (mkF m 0 (a_IIR p0 p1 r2) []))
  refine Good.back (fun _ k => XS.iloadN X0.here hx rfl (hb hby k50_0.1.1.1) rfl k) ?_
  show Good p e below _ (s₁.setTop (mkF m 1 (a_IIR p0 p1 r2) [.int p0]))
  refine Good.back (fun _ k => XS.ifNo X0.here hx rfl (hb hby k50_0.1.1.2) rfl ((if0 _ _).trans (flt h1).1) k) ?_
  refine Good.back (fun _ k => XS.iloadN X0.here hx rfl (hb hby k50_0.1.2.1) rfl k) ?_
  refine Good.back (fun _ k => XS.iloadN X0.here hx rfl (hb hby k50_0.1.2.2) rfl k) ?_
  show Good p e below _ (s₁.setTop (mkF m 6 (a_IIR p0 p1 r2) [.int p1, .int p0]))
  refine Good.back (fun _ k => XS.icmpYes X0.here hx rfl (pc0 := 6) (pc' := 16) rfl (hb hby k50_0.2.1.1) rfl (tlt h2).1 (by decide) (by decide) k) ?_
  refine Good.back (fun _ k => XS.iloadN X0.here hx rfl (hb hby k50_0.2.1.2) rfl k) ?_
  show Good p e below _ (s₁.setTop (mkF m 17 (a_IIR p0 p1 r2) [.int p0]))
  obtain ⟨fs1, hr1, hrun1, hended1, hW1, hsame1⟩ := X0.leave (v := some (.int p0)) (fun h => by rw [Bd.returns] at h; cases h)
  refine Good.done (retI X0 hx Bd.returns (hb hby k50_0.2.2) hr1) hrun1 hended1 ⟨_, _, rfl, ?_, ⟨_, rfl⟩, hW1, hsame1.mono (by decide) (by decide)⟩
  show Q50 Z p0 p1 r2 h0 n0 _ s₁.heap _
  rw [e0]
  exact ⟨rfl, N0, rfl⟩
theorem own_ef_50n (m : MethodId) (x0 : Int32) (x1 : Int32) : entryFrame m #[(.int x0), (.int x1), .null] 3 = mkF m 0 #[.val (.int x0), .val (.int x1), .val .null] [] := by first | (simp [entryFrame, mkF, argsToLocals, Value.category]; done) | rfl
def Q50n (Z : State) (p0 : Int32) (p1 : Int32) (h0 : Heap) (n0 : Nat) (v : Option Value) (h : Heap) (L : List Loc) : Prop := v = some (.int p0) ∧ Fr n0 L ∧ h = h0
set_option maxRecDepth 65536 in
set_option maxHeartbeats 40000000 in
theorem rm50n (l : Launch) (Z : State) (a0 : Array Value) (hw : ∀ d ∈ tables_1, d.before a0 Z = true) (ws : List Jvm.Cond) (p0 : Int32) (p1 : Int32) (h0 : Heap) (n0 : Nat) (Z0 : n0 ≤ h0.size) (h1 : ¬ (p0 < (0 : Int32))) (h2 : p0 < p1) :
    MetFree l y_42 (head1 (Jvm.Cond.code y_42 jdk_41_method_11_code 3 (some .int) :: ws) R_0) (fun a U => a = #[(.int p0), (.int p1), .null] ∧ Z.Warmed39 U.vm ∧ U.heap = h0) (fun _ _ _ _ _ => True) (fun _ U o U' => ∃ v L, o = .returned v ∧ Q50n Z p0 p1 h0 n0 v U'.heap L ∧ FrameEnd U o U' L R_0.cells R_0.slots) := by
  refine MetFree.of_bodySF (plainFor_of_name own_pn9) hisR ?_
  intro p e s m args below meth c s₁ Bd hml0 hP hK
  obtain ⟨rfl, hZ, hh⟩ := hP
  have hx := Bd.exec
  have hby := Bd.bytes
  have hml : c.maxLocals = 3 := hml0
  have hown : s.vm.findClass "jdk/internal/util/Preconditions" = some m.cls := findClass_of_methodNamed Bd.named
  have hnm := (name_of_methodNamed Bd.named Bd.method).1
  have X0 : Stand p l e R_0 s m #[(.int p0), (.int p1), .null] below meth c s₁ [] 0 0 := Stand.of_body Bd
  have e0 : s₁.heap = h0 := by rw [← hh, Bd.state]; rfl
  have N0 := Fr.nil n0
  show Good p e below (fun o U' => ∃ v L, o = .returned v ∧ Q50n Z p0 p1 h0 n0 v U'.heap L ∧ FrameEnd s o U' L R_0.cells R_0.slots) _
  refine Good.back (S' := s₁.setTop (mkF m 0 #[.val (.int p0), .val (.int p1), .val .null] [])) (fun t k => castTop (own_ef_50n m p0 p1) k) ?_
  show Good p e below _ (s₁.setTop (mkF m 0 (a_IIn p0 p1) []))
  refine Good.back (fun _ k => XS.iloadN X0.here hx rfl (hb hby k50_0.1.1.1) rfl k) ?_
  show Good p e below _ (s₁.setTop (mkF m 1 (a_IIn p0 p1) [.int p0]))
  refine Good.back (fun _ k => XS.ifNo X0.here hx rfl (hb hby k50_0.1.1.2) rfl ((if0 _ _).trans (flt h1).1) k) ?_
  refine Good.back (fun _ k => XS.iloadN X0.here hx rfl (hb hby k50_0.1.2.1) rfl k) ?_
  refine Good.back (fun _ k => XS.iloadN X0.here hx rfl (hb hby k50_0.1.2.2) rfl k) ?_
  show Good p e below _ (s₁.setTop (mkF m 6 (a_IIn p0 p1) [.int p1, .int p0]))
  refine Good.back (fun _ k => XS.icmpYes X0.here hx rfl (pc0 := 6) (pc' := 16) rfl (hb hby k50_0.2.1.1) rfl (tlt h2).1 (by decide) (by decide) k) ?_
  refine Good.back (fun _ k => XS.iloadN X0.here hx rfl (hb hby k50_0.2.1.2) rfl k) ?_
  show Good p e below _ (s₁.setTop (mkF m 17 (a_IIn p0 p1) [.int p0]))
  obtain ⟨fs1, hr1, hrun1, hended1, hW1, hsame1⟩ := X0.leave (v := some (.int p0)) (fun h => by rw [Bd.returns] at h; cases h)
  refine Good.done (retI X0 hx Bd.returns (hb hby k50_0.2.2) hr1) hrun1 hended1 ⟨_, _, rfl, ?_, ⟨_, rfl⟩, hW1, hsame1.mono (by decide) (by decide)⟩
  show Q50n Z p0 p1 h0 n0 _ s₁.heap _
  rw [e0]
  exact ⟨rfl, N0, rfl⟩
theorem own_pd32 : parseMethodDescriptor "(IILjava/util/function/BiFunction;)I" = some ⟨[.int, .int, (.object "java/util/function/BiFunction")], some .int⟩ := by decide +kernel
abbrev B49 := jdk_42_method_155_code
theorem k49_0 : ((own_A B49 0 (.iload_n 0) 1 ∧ own_A B49 1 (.iload_n 1) 1) ∧ own_A B49 2 (.getstatic 1053) 3) ∧ (own_A B49 5 (.invokestatic 1059) 3 ∧ own_A B49 8 .pop 1) ∧ own_A B49 9 .return_ 1 := by decide +kernel
theorem own_ef_49 (m : MethodId) (x0 : Int32) (x1 : Int32) : entryFrame m #[(.int x0), (.int x1)] 2 = mkF m 0 #[.val (.int x0), .val (.int x1)] [] := by first | (simp [entryFrame, mkF, argsToLocals, Value.category]; done) | rfl
def Q49 (Z : State) (p0 : Int32) (p1 : Int32) (vf : Value) (h0 : Heap) (n0 : Nat) (v : Option Value) (h : Heap) (L : List Loc) : Prop := v = none ∧ Fr n0 L ∧ h = h0
set_option maxRecDepth 65536 in
set_option maxHeartbeats 40000000 in
theorem rm49 (l : Launch) (Z : State) (a0 : Array Value) (hw : ∀ d ∈ tables_1, d.before a0 Z = true) (ws : List Jvm.Cond) (p0 : Int32) (p1 : Int32) (vf : Value) (h0 : Heap) (n0 : Nat) (Z0 : n0 ≤ h0.size) (S_f : Sta Z h0 "jdk/internal/util/Preconditions" "SIOOBE_FORMATTER" "Ljava/util/function/BiFunction;" vf) (hfm : vf = .null ∨ ∃ a : Addr, vf = .ref a) (h1 : ¬ (p0 < (0 : Int32))) (h2 : p0 < p1) :
    MetFree l y_43 (head1 (Jvm.Cond.code y_43 jdk_42_method_155_code 2 none :: ws) R_1) (fun a U => a = #[(.int p0), (.int p1)] ∧ Z.Warmed39 U.vm ∧ U.heap = h0) (fun _ _ _ _ _ => True) (fun _ U o U' => ∃ v L, o = .returned v ∧ Q49 Z p0 p1 vf h0 n0 v U'.heap L ∧ FrameEnd U o U' L R_1.cells R_1.slots) := by
  refine MetFree.of_bodySF (plainFor_of_name own_pn3) hisR ?_
  intro p e s m args below meth c s₁ Bd hml0 hP hK
  obtain ⟨rfl, hZ, hh⟩ := hP
  have hx := Bd.exec
  have hby := Bd.bytes
  have hml : c.maxLocals = 2 := hml0
  have hown : s.vm.findClass "java/lang/String" = some m.cls := findClass_of_methodNamed Bd.named
  have hnm := (name_of_methodNamed Bd.named Bd.method).1
  have X0 : Stand p l e R_1 s m #[(.int p0), (.int p1)] below meth c s₁ [] 0 0 := Stand.of_body Bd
  have e0 : s₁.heap = h0 := by rw [← hh, Bd.state]; rfl
  have N0 := Fr.nil n0
  show Good p e below (fun o U' => ∃ v L, o = .returned v ∧ Q49 Z p0 p1 vf h0 n0 v U'.heap L ∧ FrameEnd s o U' L R_1.cells R_1.slots) _
  refine Good.back (S' := s₁.setTop (mkF m 0 #[.val (.int p0), .val (.int p1)] [])) (fun t k => castTop (own_ef_49 m p0 p1) k) ?_
  show Good p e below _ (s₁.setTop (mkF m 0 (a_II p0 p1) []))
  refine Good.back (fun _ k => XS.iloadN X0.here hx rfl (hb hby k49_0.1.1.1) rfl k) ?_
  refine Good.back (fun _ k => XS.iloadN X0.here hx rfl (hb hby k49_0.1.1.2) rfl k) ?_
  obtain ⟨T1, X1, e1, st1⟩ := getS2 X0 hx hZ hown (host := "") (Or.inl (wd hw 262 rfl)) Via.refl e0 S_f (g := (mkF m 2 (a_II p0 p1) [.int p1, .int p0])) rfl (hb hby k49_0.1.2)
  refine Good.back st1 ?_
  show Good p e below _ (T1.setTop (mkF m 5 (a_II p0 p1) [vf, .int p1, .int p0]))
  rcases hfm with ev | ⟨af, ev⟩
  · refine Good.back (S' := T1.setTop (mkF m 5 (a_II p0 p1) [.null, .int p1, .int p0])) (fun _ k => by rw [ev]; exact k) ?_
    obtain ⟨_, _, ⟨T2, L2, k2, n2⟩, -, X2, ⟨Lc2, hQ2, l2, y2, z2⟩, st2⟩ := Jvm.LawKit.callS X1 hx (y := y_42) hown (mvT hZ (wd hw 264 rfl)) (mvT hZ (wd hw 265 rfl)) (mvT hZ (wd hw 263 rfl)) (mvT hZ (wd hw 266 rfl)) (by decide) (backOf (W := 0) (rm50n l Z a0 hw [] p0 p1  h0 n0 Z0 (h1) (h2)) hZ (wd hw 266 rfl) (wd hw 263 rfl) (by decide) (by decide)) (g := (mkF m 5 (a_II p0 p1) [.null, .int p1, .int p0])) rfl (by rw [hml]; rfl) (argsL := [(.int p0), (.int p1), .null]) (rest := []) (lenOf own_pd32 rfl) rfl (by show 2 * 0 + _ ≤ _; exact Nat.le_of_eq rfl) (hb hby k49_0.2.1.1) (fun _ _ => ⟨rfl, e1, (by decide : 0 + 0 ≤ _), (by decide : 0 + 0 ≤ _)⟩)
    dsimp only [Pt.U, Pt.locs, Pt.cells, Pt.slots] at X2 l2 y2 z2 st2 hQ2
    subst l2 y2 z2
    obtain ⟨rfl, N2q, eh2⟩ := hQ2
    have N2 := Fr.app N0 N2q
    refine Good.back st2 ?_
    refine Good.back (fun _ k => XS.pop X2.here hx rfl (hb hby k49_0.2.1.2) rfl rfl k) ?_
    show Good p e below _ (T2.setTop (mkF m 9 (a_II p0 p1) []))
    obtain ⟨fs3, hr3, hrun3, hended3, hW3, hsame3⟩ := X2.leave (v := none) (fun _ => rfl)
    refine Good.done (X2.returnOut hx Bd.returns (hb hby k49_0.2.2) hr3) hrun3 hended3 ⟨_, _, rfl, ?_, ⟨_, rfl⟩, hW3, hsame3.mono (by decide) (by decide)⟩
    show Q49 Z p0 p1 vf h0 n0 _ T2.heap _
    rw [eh2]
    exact ⟨rfl, N2, rfl⟩
  · refine Good.back (S' := T1.setTop (mkF m 5 (a_II p0 p1) [.ref af, .int p1, .int p0])) (fun _ k => by rw [ev]; exact k) ?_
    obtain ⟨_, _, ⟨T4, L4, k4, n4⟩, -, X4, ⟨Lc4, hQ4, l4, y4, z4⟩, st4⟩ := Jvm.LawKit.callS X1 hx (y := y_42) hown (mvT hZ (wd hw 264 rfl)) (mvT hZ (wd hw 265 rfl)) (mvT hZ (wd hw 263 rfl)) (mvT hZ (wd hw 266 rfl)) (by decide) (backOf (W := 0) (rm50 l Z a0 hw [] p0 p1 af  h0 n0 Z0 (h1) (h2)) hZ (wd hw 266 rfl) (wd hw 263 rfl) (by decide) (by decide)) (g := (mkF m 5 (a_II p0 p1) [.ref af, .int p1, .int p0])) rfl (by rw [hml]; rfl) (argsL := [(.int p0), (.int p1), (.ref af)]) (rest := []) (lenOf own_pd32 rfl) rfl (by show 2 * 0 + _ ≤ _; exact Nat.le_of_eq rfl) (hb hby k49_0.2.1.1) (fun _ _ => ⟨rfl, e1, (by decide : 0 + 0 ≤ _), (by decide : 0 + 0 ≤ _)⟩)
    dsimp only [Pt.U, Pt.locs, Pt.cells, Pt.slots] at X4 l4 y4 z4 st4 hQ4
    subst l4 y4 z4
    obtain ⟨rfl, N4q, eh4⟩ := hQ4
    have N4 := Fr.app N0 N4q
    refine Good.back st4 ?_
    refine Good.back (fun _ k => XS.pop X4.here hx rfl (hb hby k49_0.2.1.2) rfl rfl k) ?_
    show Good p e below _ (T4.setTop (mkF m 9 (a_II p0 p1) []))
    obtain ⟨fs5, hr5, hrun5, hended5, hW5, hsame5⟩ := X4.leave (v := none) (fun _ => rfl)
    refine Good.done (X4.returnOut hx Bd.returns (hb hby k49_0.2.2) hr5) hrun5 hended5 ⟨_, _, rfl, ?_, ⟨_, rfl⟩, hW5, hsame5.mono (by decide) (by decide)⟩
    show Q49 Z p0 p1 vf h0 n0 _ T4.heap _
    rw [eh4]
    exact ⟨rfl, N4, rfl⟩
abbrev B48 := jdk_43_method_2_code
theorem k48_0 : ((own_A B48 0 (.iload_n 1) 1 ∧ own_A B48 1 (.aload_n 0) 1) ∧ own_A B48 2 .arraylength 1 ∧ own_A B48 3 (.invokestatic 9) 3) ∧ (own_A B48 6 (.aload_n 0) 1 ∧ own_A B48 7 (.iload_n 1) 1) ∧ own_A B48 8 .baload 1 ∧ own_A B48 9 (.sipush 255) 3 := by decide +kernel
theorem k48_1 : (own_A B48 12 .iand 1 ∧ own_A B48 13 .i2c 1) ∧ own_A B48 14 .ireturn 1 := by decide +kernel
theorem own_ef_48 (m : MethodId) (x0 : Addr) (x1 : Int32) : entryFrame m #[(.ref x0), (.int x1)] 2 = mkF m 0 #[.val (.ref x0), .val (.int x1)] [] := by first | (simp [entryFrame, mkF, argsToLocals, Value.category]; done) | rfl
def Q48 (Z : State) (r0 : Addr) (p1 : Int32) (ks : ClassId) (zs : Int32) (cl : List Int32) (vf : Value) (k : Nat) (x : Int32) (h0 : Heap) (n0 : Nat) (v : Option Value) (h : Heap) (L : List Loc) : Prop := v = some (.int x) ∧ Fr n0 L ∧ h = h0
set_option maxRecDepth 65536 in
set_option maxHeartbeats 40000000 in
theorem rm48 (l : Launch) (Z : State) (a0 : Array Value) (hw : ∀ d ∈ tables_1, d.before a0 Z = true) (ws : List Jvm.Cond) (r0 : Addr) (p1 : Int32) (ks : ClassId) (zs : Int32) (cl : List Int32) (vf : Value) (k : Nat) (x : Int32) (h0 : Heap) (n0 : Nat) (Z0 : n0 ≤ h0.size) (Vs : Arv Z h0 r0 ks .byte zs (own_v cl) (.int 0)) (hzs : zs.toInt = (cl.length : Int)) (S_f : Sta Z h0 "jdk/internal/util/Preconditions" "SIOOBE_FORMATTER" "Ljava/util/function/BiFunction;" vf) (hfm : vf = .null ∨ ∃ a : Addr, vf = .ref a) (hk : p1.toInt = (k : Int)) (hx_ : cl[k]? = some x) (hb_ : 0 ≤ x.toInt ∧ x.toInt < 128) :
    MetFree l y_44 (head1 (Jvm.Cond.code y_44 jdk_43_method_2_code 2 (some .char) :: ws) R_21) (fun a U => a = #[(.ref r0), (.int p1)] ∧ Z.Warmed39 U.vm ∧ U.heap = h0) (fun _ _ _ _ _ => True) (fun _ U o U' => ∃ v L, o = .returned v ∧ Q48 Z r0 p1 ks zs cl vf k x h0 n0 v U'.heap L ∧ FrameEnd U o U' L R_21.cells R_21.slots) := by
  refine MetFree.of_bodySF (plainFor_of_name own_pn7) hisR ?_
  intro p e s m args below meth c s₁ Bd hml0 hP hK
  obtain ⟨rfl, hZ, hh⟩ := hP
  have hx := Bd.exec
  have hby := Bd.bytes
  have hml : c.maxLocals = 2 := hml0
  have hown : s.vm.findClass "java/lang/StringLatin1" = some m.cls := findClass_of_methodNamed Bd.named
  have hnm := (name_of_methodNamed Bd.named Bd.method).1
  have X0 : Stand p l e R_21 s m #[(.ref r0), (.int p1)] below meth c s₁ [] 0 0 := Stand.of_body Bd
  have e0 : s₁.heap = h0 := by rw [← hh, Bd.state]; rfl
  have N0 := Fr.nil n0
  show Good p e below (fun o U' => ∃ v L, o = .returned v ∧ Q48 Z r0 p1 ks zs cl vf k x h0 n0 v U'.heap L ∧ FrameEnd s o U' L R_21.cells R_21.slots) _
  refine Good.back (S' := s₁.setTop (mkF m 0 #[.val (.ref r0), .val (.int p1)] [])) (fun t k => castTop (own_ef_48 m r0 p1) k) ?_
  have hkl : k < cl.length := (List.getElem?_eq_some_iff.mp hx_).1
  have hkn : p1.toNatClampNeg = k := by have := own_nat (z := p1) (by omega); omega
  have i1 : ¬ (p1 < (0 : Int32)) := own_lt (by rw [show (0 : Int32).toInt = 0 from rfl]; omega)
  have i2 : p1 < zs := own_lt' (by omega)
  show Good p e below _ (s₁.setTop (mkF m 0 (a_RI r0 p1) []))
  refine Good.back (fun _ k => XS.iloadN X0.here hx rfl (hb hby k48_0.1.1.1) rfl k) ?_
  refine Good.back (fun _ k => XS.aloadN X0.here hx rfl (hb hby k48_0.1.1.2) rfl rfl k) ?_
  have fc1 := Vs
  obtain ⟨cl1, Ar1, qk1, S1, N1', H1, G1⟩ := fc1
  refine Good.back (X0.arraylength hx (by rw [e0]; exact Ar1.1) (State.isArrayOf_alike hZ.alike Ar1.2.1) (g := (mkF m 2 (a_RI r0 p1) [.ref r0, .int p1])) rfl rfl (hb hby k48_0.1.2.1)) ?_
  rw [len_of S1 N1']
  obtain ⟨_, _, ⟨T2, L2, k2, n2⟩, -, X2, ⟨Lc2, hQ2, l2, y2, z2⟩, st2⟩ := Jvm.LawKit.callS X0 hx (y := y_43) hown (mvT hZ (wd hw 259 rfl)) (mvT hZ (wd hw 260 rfl)) (mvT hZ (wd hw 30 rfl)) (mvT hZ (wd hw 261 rfl)) (by decide) (backOf (W := 0) (rm49 l Z a0 hw [] p1 zs vf h0 n0 Z0 S_f (hfm) (i1) (i2)) hZ (wd hw 261 rfl) (wd hw 30 rfl) (by decide) (by decide)) (g := (mkF m 3 (a_RI r0 p1) [.int zs, .int p1])) rfl (by rw [hml]; rfl) (argsL := [(.int p1), (.int zs)]) (rest := []) (lenOf own_pd19 rfl) rfl (by show 2 * 0 + _ ≤ _; exact Nat.le_of_eq rfl) (hb hby k48_0.1.2.2) (fun _ _ => ⟨rfl, e0, (by decide : 0 + 0 ≤ _), (by decide : 0 + 0 ≤ _)⟩)
  dsimp only [Pt.U, Pt.locs, Pt.cells, Pt.slots] at X2 l2 y2 z2 st2 hQ2
  subst l2 y2 z2
  obtain ⟨rfl, N2q, eh2⟩ := hQ2
  have N2 := Fr.app N0 N2q
  refine Good.back st2 ?_
  refine Good.back (fun _ k => XS.aloadN X2.here hx rfl (hb hby k48_0.2.1.1) rfl rfl k) ?_
  refine Good.back (fun _ k => XS.iloadN X2.here hx rfl (hb hby k48_0.2.1.2) rfl k) ?_
  have fc3 := Vs
  obtain ⟨cl3, Ar3, qk3, S3, N3', H3, G3⟩ := fc3
  have hin3 : ¬ (p1 < 0 ∨ cl3.slots.size ≤ (p1).toNatClampNeg) := inb_of S3 ⟨i1, i2⟩
  have hat3 : cl3.slots[(p1).toNatClampNeg]? = some (.int x) := Has.at H3 hin3 (by rw [hkn]; simp [own_v, List.getD, hx_])
  refine Good.back (X2.baloadBytes hx (j := p1) (v := (.int x)) (by rw [eh2]; exact Ar3.1) (State.isArrayOf_alike hZ.alike Ar3.2.1) Ar3.2.2 hin3 hat3 (g := (mkF m 8 (a_RI r0 p1) [.int p1, .ref r0])) rfl rfl (hb hby k48_0.2.2.1)) ?_
  refine Good.back (fun _ k => XS.sipush X2.here hx rfl (hb hby k48_0.2.2.2) k) ?_
  refine Good.back (fun _ k => XS.iand X2.here hx rfl (hb hby k48_1.1.1) rfl k) ?_
  show Good p e below _ (T2.setTop (mkF m 13 (a_RI r0 p1) [.int (x &&& (255 : Int32))]))
  rw [show ((x &&& (255 : Int32)) : Int32) = x from (own_asc hb_).1]
  show Good p e below _ (T2.setTop (mkF m 13 (a_RI r0 p1) [.int x]))
  refine Good.back (fun _ k => XS.i2c X2.here hx rfl (hb hby k48_1.1.2) rfl k) ?_
  show Good p e below _ (T2.setTop (mkF m 14 (a_RI r0 p1) [.int (x.toUInt32.toUInt16.toUInt32.toInt32)]))
  rw [show ((x.toUInt32.toUInt16.toUInt32.toInt32) : Int32) = x from (own_asc hb_).2]
  show Good p e below _ (T2.setTop (mkF m 14 (a_RI r0 p1) [.int x]))
  obtain ⟨fs4, hr4, hrun4, hended4, hW4, hsame4⟩ := X2.leave (v := some (.int (nar .char x))) (fun h => by rw [Bd.returns] at h; cases h)
  refine Good.done (retN X2 hx (t := .char) Bd.returns (by simp) (hb hby k48_1.2) hr4) hrun4 hended4 ⟨_, _, rfl, ?_, ⟨_, rfl⟩, hW4, hsame4.mono (by decide) (by decide)⟩
  show Q48 Z r0 p1 ks zs cl vf k x h0 n0 _ T2.heap _
  rw [eh2]
  exact ⟨congrArg (fun z => some (Value.int z)) (own_asc hb_).2, N2, rfl⟩
abbrev B47 := jdk_42_method_154_code
theorem k47_0 : ((own_A B47 0 (.getstatic 38) 3 ∧ own_A B47 3 (.ifCond .eq 14) 3) ∧ own_A B47 6 (.aload_n 0) 1 ∧ own_A B47 7 (.getfield 15) 3) ∧ (own_A B47 10 (.ifCond .ne 7) 3 ∧ own_A B47 13 (.iconst 1) 1) ∧ own_A B47 14 (.goto 4) 3 ∧ own_A B47 18 .ireturn 1 := by decide +kernel
theorem own_ef_47 (m : MethodId) (x0 : Addr) : entryFrame m #[(.ref x0)] 1 = mkF m 0 #[.val (.ref x0)] [] := by first | (simp [entryFrame, mkF, argsToLocals, Value.category]; done) | rfl
def Q47 (Z : State) (r0 : Addr) (cs : Int32) (h0 : Heap) (n0 : Nat) (v : Option Value) (h : Heap) (L : List Loc) : Prop := v = some (.int 1) ∧ Fr n0 L ∧ h = h0
set_option maxRecDepth 65536 in
set_option maxHeartbeats 40000000 in
theorem rm47 (l : Launch) (Z : State) (a0 : Array Value) (hw : ∀ d ∈ tables_1, d.before a0 Z = true) (ws : List Jvm.Cond) (r0 : Addr) (cs : Int32) (h0 : Heap) (n0 : Nat) (Z0 : n0 ≤ h0.size) (S_cs : Sta Z h0 "java/lang/String" "COMPACT_STRINGS" "Z" (.int cs)) (hcs : ¬ (cs = (0 : Int32))) (Es : Exa Z h0 r0 "java/lang/String") (Fsc : Fld Z h0 r0 "java/lang/String" "coder" "B" (.int 0)) :
    MetFree l y_45 (head1 (Jvm.Cond.code y_45 jdk_42_method_154_code 1 (some .boolean) :: ws) R_0) (fun a U => a = #[(.ref r0)] ∧ Z.Warmed39 U.vm ∧ U.heap = h0) (fun _ _ _ _ _ => True) (fun _ U o U' => ∃ v L, o = .returned v ∧ Q47 Z r0 cs h0 n0 v U'.heap L ∧ FrameEnd U o U' L R_0.cells R_0.slots) := by
  refine MetFree.of_bodySF (plainFor_of_name own_pn3) hisR ?_
  intro p e s m args below meth c s₁ Bd hml0 hP hK
  obtain ⟨rfl, hZ, hh⟩ := hP
  have hx := Bd.exec
  have hby := Bd.bytes
  have hml : c.maxLocals = 1 := hml0
  have hown : s.vm.findClass "java/lang/String" = some m.cls := findClass_of_methodNamed Bd.named
  have hnm := (name_of_methodNamed Bd.named Bd.method).1
  have X0 : Stand p l e R_0 s m #[(.ref r0)] below meth c s₁ [] 0 0 := Stand.of_body Bd
  have e0 : s₁.heap = h0 := by rw [← hh, Bd.state]; rfl
  have N0 := Fr.nil n0
  show Good p e below (fun o U' => ∃ v L, o = .returned v ∧ Q47 Z r0 cs h0 n0 v U'.heap L ∧ FrameEnd s o U' L R_0.cells R_0.slots) _
  refine Good.back (S' := s₁.setTop (mkF m 0 #[.val (.ref r0)] [])) (fun t k => castTop (own_ef_47 m r0) k) ?_
  show Good p e below _ (s₁.setTop (mkF m 0 (a_R r0) []))
  obtain ⟨T1, X1, e1, st1⟩ := getS2 X0 hx hZ hown (host := "") (Or.inl (wd hw 63 rfl)) Via.refl e0 S_cs (g := (mkF m 0 (a_R r0) [])) rfl (hb hby k47_0.1.1.1)
  refine Good.back st1 ?_
  show Good p e below _ (T1.setTop (mkF m 3 (a_R r0) [.int cs]))
  refine Good.back (fun _ k => XS.ifNo X1.here hx rfl (hb hby k47_0.1.1.2) rfl ((if0 _ _).trans (feq hcs).1) k) ?_
  refine Good.back (fun _ k => XS.aloadN X1.here hx rfl (hb hby k47_0.1.2.1) rfl rfl k) ?_
  obtain ⟨T2, X2, e2, st2⟩ := getF X1 hx hZ hown (host := "") (Or.inl (wd hw 64 rfl)) Via.refl e1 Fsc (g := (mkF m 7 (a_R r0) [.ref r0])) rfl rfl (hb hby k47_0.1.2.2)
  refine Good.back st2 ?_
  refine Good.back (fun _ k => XS.ifNo X2.here hx rfl (hb hby k47_0.2.1.1) rfl ((if0 _ _).trans (teq (by decide : ((0 : Int32) = (0 : Int32)))).2) k) ?_
  refine Good.back (fun _ k => XS.iconst X2.here hx rfl (hb hby k47_0.2.1.2) k) ?_
  refine Good.back (fun _ k => XS.goto X2.here hx rfl (pc0 := 14) (pc' := 18) rfl (hb hby k47_0.2.2.1) (by decide) (by decide) k) ?_
  show Good p e below _ (T2.setTop (mkF m 18 (a_R r0) [.int 1]))
  obtain ⟨fs3, hr3, hrun3, hended3, hW3, hsame3⟩ := X2.leave (v := some (.int 1)) (fun h => by rw [Bd.returns] at h; cases h)
  refine Good.done (retN X2 hx (t := .boolean) Bd.returns (by simp) (hb hby k47_0.2.2.2) hr3) hrun3 hended3 ⟨_, _, rfl, ?_, ⟨_, rfl⟩, hW3, hsame3.mono (by decide) (by decide)⟩
  show Q47 Z r0 cs h0 n0 _ T2.heap _
  rw [e2]
  exact ⟨rfl, N0, rfl⟩
theorem own_pd33 : parseMethodDescriptor "([BI)C" = some ⟨[(.array .byte), .int], some .char⟩ := by decide +kernel
abbrev B46 := jdk_42_method_56_code
theorem k46_0 : ((own_A B46 0 (.aload_n 0) 1 ∧ own_A B46 1 (.invokevirtual 492) 3) ∧ own_A B46 4 (.ifCond .eq 12) 3 ∧ own_A B46 7 (.aload_n 0) 1) ∧ (own_A B46 8 (.getfield 9) 3 ∧ own_A B46 11 (.iload_n 1) 1) ∧ own_A B46 12 (.invokestatic 495) 3 ∧ own_A B46 15 .ireturn 1 := by decide +kernel
theorem own_ef_46 (m : MethodId) (x0 : Addr) (x1 : Int32) : entryFrame m #[(.ref x0), (.int x1)] 2 = mkF m 0 #[.val (.ref x0), .val (.int x1)] [] := by first | (simp [entryFrame, mkF, argsToLocals, Value.category]; done) | rfl
def Q46 (Z : State) (r0 : Addr) (p1 : Int32) (cs : Int32) (sv : Addr) (ks : ClassId) (zs : Int32) (cl : List Int32) (vf : Value) (k : Nat) (x : Int32) (h0 : Heap) (n0 : Nat) (v : Option Value) (h : Heap) (L : List Loc) : Prop := v = some (.int x) ∧ Fr n0 L ∧ h = h0
set_option maxRecDepth 65536 in
set_option maxHeartbeats 40000000 in
theorem rm46 (l : Launch) (Z : State) (a0 : Array Value) (hw : ∀ d ∈ tables_1, d.before a0 Z = true) (ws : List Jvm.Cond) (r0 : Addr) (p1 : Int32) (cs : Int32) (sv : Addr) (ks : ClassId) (zs : Int32) (cl : List Int32) (vf : Value) (k : Nat) (x : Int32) (h0 : Heap) (n0 : Nat) (Z0 : n0 ≤ h0.size) (S_cs : Sta Z h0 "java/lang/String" "COMPACT_STRINGS" "Z" (.int cs)) (hcs : ¬ (cs = (0 : Int32))) (Es : Exa Z h0 r0 "java/lang/String") (Fsv : Fld Z h0 r0 "java/lang/String" "value" "[B" (.ref sv)) (Fsc : Fld Z h0 r0 "java/lang/String" "coder" "B" (.int 0)) (Vs : Arv Z h0 sv ks .byte zs (own_v cl) (.int 0)) (hzs : zs.toInt = (cl.length : Int)) (S_f : Sta Z h0 "jdk/internal/util/Preconditions" "SIOOBE_FORMATTER" "Ljava/util/function/BiFunction;" vf) (hfm : vf = .null ∨ ∃ a : Addr, vf = .ref a) (hk : p1.toInt = (k : Int)) (hx_ : cl[k]? = some x) (hb_ : 0 ≤ x.toInt ∧ x.toInt < 128) :
    MetFree l y_46 (head1 (Jvm.Cond.code y_46 jdk_42_method_56_code 2 (some .char) :: ws) R_22) (fun a U => a = #[(.ref r0), (.int p1)] ∧ Z.Warmed39 U.vm ∧ U.heap = h0) (fun _ _ _ _ _ => True) (fun _ U o U' => ∃ v L, o = .returned v ∧ Q46 Z r0 p1 cs sv ks zs cl vf k x h0 n0 v U'.heap L ∧ FrameEnd U o U' L R_22.cells R_22.slots) := by
  refine MetFree.of_bodySF (plainFor_of_name own_pn3) hisR ?_
  intro p e s m args below meth c s₁ Bd hml0 hP hK
  obtain ⟨rfl, hZ, hh⟩ := hP
  have hx := Bd.exec
  have hby := Bd.bytes
  have hml : c.maxLocals = 2 := hml0
  have hown : s.vm.findClass "java/lang/String" = some m.cls := findClass_of_methodNamed Bd.named
  have hnm := (name_of_methodNamed Bd.named Bd.method).1
  have X0 : Stand p l e R_22 s m #[(.ref r0), (.int p1)] below meth c s₁ [] 0 0 := Stand.of_body Bd
  have e0 : s₁.heap = h0 := by rw [← hh, Bd.state]; rfl
  have N0 := Fr.nil n0
  show Good p e below (fun o U' => ∃ v L, o = .returned v ∧ Q46 Z r0 p1 cs sv ks zs cl vf k x h0 n0 v U'.heap L ∧ FrameEnd s o U' L R_22.cells R_22.slots) _
  refine Good.back (S' := s₁.setTop (mkF m 0 #[.val (.ref r0), .val (.int p1)] [])) (fun t k => castTop (own_ef_46 m r0 p1) k) ?_
  show Good p e below _ (s₁.setTop (mkF m 0 (a_RI r0 p1) []))
  refine Good.back (fun _ k => XS.aloadN X0.here hx rfl (hb hby k46_0.1.1.1) rfl rfl k) ?_
  obtain ⟨cq1, kq1, q1a, q1b, q1c⟩ := isOf hZ e0 Es
  obtain ⟨_, _, ⟨T1, L1, k1, n1⟩, -, X1, ⟨Lc1, hQ1, l1, y1, z1⟩, st1⟩ := X0.virtualBack hx (y := y_45) (z := y_45) hown (mvT hZ (wd hw 251 rfl)) (mvT hZ (wd hw 252 rfl)) (notFace_of_selects (args := #[]) (mvT hZ (wd hw 254 rfl))) (mvT hZ (wd hw 254 rfl)) (mvT hZ (wd hw 253 rfl)) (by decide) (backOf (W := 0) (rm47 l Z a0 hw [] r0 cs h0 n0 Z0 S_cs (hcs) Es Fsc) hZ (wd hw 255 rfl) (wd hw 30 rfl) (by decide) (by decide)) q1a q1c (g := (mkF m 1 (a_RI r0 p1) [.ref r0])) rfl (by rw [hml]; rfl) (Steps.refl _) (argsL := []) (rest := []) (lenOf own_pd12 rfl) rfl (by show 2 * 0 + _ ≤ _; exact Nat.le_of_eq rfl) (hb hby k46_0.1.1.2) (fun _ _ => ⟨rfl, e0, (by decide : 0 + 0 ≤ _), (by decide : 0 + 0 ≤ _)⟩)
  dsimp only [Pt.U, Pt.locs, Pt.cells, Pt.slots] at X1 l1 y1 z1 st1 hQ1
  subst l1 y1 z1
  obtain ⟨rfl, N1q, eh1⟩ := hQ1
  have N1 := Fr.app N0 N1q
  refine Good.back (fun _ k => st1.trans k) ?_
  refine Good.back (fun _ k => XS.ifNo X1.here hx rfl (hb hby k46_0.1.2.1) rfl ((if0 _ _).trans (feq (by decide : ¬ ((1 : Int32) = (0 : Int32)))).1) k) ?_
  refine Good.back (fun _ k => XS.aloadN X1.here hx rfl (hb hby k46_0.1.2.2) rfl rfl k) ?_
  obtain ⟨T2, X2, e2, st2⟩ := getF X1 hx hZ hown (host := "") (Or.inl (wd hw 57 rfl)) Via.refl eh1 Fsv (g := (mkF m 8 (a_RI r0 p1) [.ref r0])) rfl rfl (hb hby k46_0.2.1.1)
  refine Good.back st2 ?_
  refine Good.back (fun _ k => XS.iloadN X2.here hx rfl (hb hby k46_0.2.1.2) rfl k) ?_
  obtain ⟨_, _, ⟨T3, L3, k3, n3⟩, -, X3, ⟨Lc3, hQ3, l3, y3, z3⟩, st3⟩ := Jvm.LawKit.callS X2 hx (y := y_44) hown (mvT hZ (wd hw 256 rfl)) (mvT hZ (wd hw 257 rfl)) (mvT hZ (wd hw 193 rfl)) (mvT hZ (wd hw 258 rfl)) (by decide) (backOf (W := 0) (rm48 l Z a0 hw [] sv p1 ks zs cl vf k x h0 n0 Z0 Vs (hzs) S_f (hfm) (hk) (hx_) (hb_)) hZ (wd hw 258 rfl) (wd hw 193 rfl) (by decide) (by decide)) (g := (mkF m 12 (a_RI r0 p1) [.int p1, .ref sv])) rfl (by rw [hml]; rfl) (argsL := [(.ref sv), (.int p1)]) (rest := []) (lenOf own_pd33 rfl) rfl (by show 2 * 0 + _ ≤ _; exact Nat.le_of_eq rfl) (hb hby k46_0.2.2.1) (fun _ _ => ⟨rfl, e2, (by decide : 0 + 0 ≤ _), (by decide : 0 + 0 ≤ _)⟩)
  dsimp only [Pt.U, Pt.locs, Pt.cells, Pt.slots] at X3 l3 y3 z3 st3 hQ3
  subst l3 y3 z3
  obtain ⟨rfl, N3q, eh3⟩ := hQ3
  have N3 := Fr.app N1 N3q
  refine Good.back st3 ?_
  show Good p e below _ (T3.setTop (mkF m 15 (a_RI r0 p1) [.int x]))
  obtain ⟨fs4, hr4, hrun4, hended4, hW4, hsame4⟩ := X3.leave (v := some (.int (nar .char x))) (fun h => by rw [Bd.returns] at h; cases h)
  refine Good.done (retN X3 hx (t := .char) Bd.returns (by simp) (hb hby k46_0.2.2.2) hr4) hrun4 hended4 ⟨_, _, rfl, ?_, ⟨_, rfl⟩, hW4, hsame4.mono (by decide) (by decide)⟩
  show Q46 Z r0 p1 cs sv ks zs cl vf k x h0 n0 _ T3.heap _
  rw [eh3]
  exact ⟨congrArg (fun z => some (Value.int z)) (own_asc hb_).2, N3, rfl⟩
theorem own_pn10 : plainName "com/example/liken/liken/cli/IndexSummaryIndexedPinLaw" = true := by first | (simp [plainName, overriddenIn]; done) | decide +kernel
abbrev B44 := method_2_code
theorem k44_0 : ((own_A B44 0 (.lload_n 0) 1 ∧ own_A B44 1 (.ldc2_w 7) 3) ∧ own_A B44 4 .lcmp 1 ∧ own_A B44 5 (.ifCond .ge 5) 3) ∧ (own_A B44 8 (.iconst 1) 1 ∧ own_A B44 9 .ireturn 1) ∧ own_A B44 10 (.lload_n 0) 1 ∧ own_A B44 11 (.ldc2_w 9) 3 := by decide +kernel
theorem k44_1 : ((own_A B44 14 .lcmp 1 ∧ own_A B44 15 (.ifCond .ge 5) 3) ∧ own_A B44 18 (.iconst 2) 1 ∧ own_A B44 19 .ireturn 1) ∧ (own_A B44 20 (.lload_n 0) 1 ∧ own_A B44 21 (.ldc2_w 11) 3) ∧ own_A B44 24 .lcmp 1 ∧ own_A B44 25 (.ifCond .ge 5) 3 := by decide +kernel
theorem k44_2 : ((own_A B44 28 (.iconst 3) 1 ∧ own_A B44 29 .ireturn 1) ∧ own_A B44 30 (.lload_n 0) 1 ∧ own_A B44 31 (.ldc2_w 13) 3) ∧ (own_A B44 34 .lcmp 1 ∧ own_A B44 35 (.ifCond .ge 5) 3) ∧ own_A B44 38 (.iconst 4) 1 ∧ own_A B44 39 .ireturn 1 := by decide +kernel
theorem k44_3 : ((own_A B44 40 (.lload_n 0) 1 ∧ own_A B44 41 (.ldc2_w 15) 3) ∧ own_A B44 44 .lcmp 1 ∧ own_A B44 45 (.ifCond .ge 5) 3) ∧ (own_A B44 48 (.iconst 5) 1 ∧ own_A B44 49 .ireturn 1) ∧ own_A B44 50 (.lload_n 0) 1 ∧ own_A B44 51 (.ldc2_w 17) 3 := by decide +kernel
theorem k44_4 : ((own_A B44 54 .lcmp 1 ∧ own_A B44 55 (.ifCond .ge 6) 3) ∧ own_A B44 58 (.bipush 6) 2 ∧ own_A B44 60 .ireturn 1) ∧ (own_A B44 61 (.lload_n 0) 1 ∧ own_A B44 62 (.ldc2_w 19) 3) ∧ own_A B44 65 .lcmp 1 ∧ own_A B44 66 (.ifCond .ge 6) 3 := by decide +kernel
theorem k44_5 : ((own_A B44 69 (.bipush 7) 2 ∧ own_A B44 71 .ireturn 1) ∧ own_A B44 72 (.lload_n 0) 1 ∧ own_A B44 73 (.ldc2_w 21) 3) ∧ (own_A B44 76 .lcmp 1 ∧ own_A B44 77 (.ifCond .ge 6) 3) ∧ own_A B44 80 (.bipush 8) 2 ∧ own_A B44 82 .ireturn 1 := by decide +kernel
theorem k44_6 : ((own_A B44 83 (.lload_n 0) 1 ∧ own_A B44 84 (.ldc2_w 23) 3) ∧ own_A B44 87 .lcmp 1 ∧ own_A B44 88 (.ifCond .ge 6) 3) ∧ (own_A B44 91 (.bipush 9) 2 ∧ own_A B44 93 .ireturn 1) ∧ own_A B44 94 (.bipush 10) 2 ∧ own_A B44 96 .ireturn 1 := by decide +kernel
theorem own_ef_44 (m : MethodId) (x0 : Int64) : entryFrame m #[(.long x0)] 2 = mkF m 0 #[.val (.long x0), .second] [] := by first | (simp [entryFrame, mkF, argsToLocals, Value.category]; done) | rfl
def Q44 (Z : State) (q0 : Int64) (mm : Nat) (h0 : Heap) (n0 : Nat) (v : Option Value) (h : Heap) (L : List Loc) : Prop := v = some (.int (own_dl q0)) ∧ Fr n0 L ∧ h = h0
set_option maxRecDepth 65536 in
set_option maxHeartbeats 40000000 in
theorem rm44 (l : Launch) (Z : State) (a0 : Array Value) (hw : ∀ d ∈ tables_1, d.before a0 Z = true) (ws : List Jvm.Cond) (q0 : Int64) (mm : Nat) (h0 : Heap) (n0 : Nat) (Z0 : n0 ≤ h0.size) (hm : q0.toInt = (mm : Int)) (hmB : mm ≤ 4294967296) :
    MetFree l y_47 (head1 (Jvm.Cond.code y_47 method_2_code 2 (some .int) :: ws) R_0) (fun a U => a = #[(.long q0)] ∧ Z.Warmed39 U.vm ∧ U.heap = h0) (fun _ _ _ _ _ => True) (fun _ U o U' => ∃ v L, o = .returned v ∧ Q44 Z q0 mm h0 n0 v U'.heap L ∧ FrameEnd U o U' L R_0.cells R_0.slots) := by
  refine MetFree.of_bodySF (plainFor_of_name own_pn10) hisR ?_
  intro p e s m args below meth c s₁ Bd hml0 hP hK
  obtain ⟨rfl, hZ, hh⟩ := hP
  have hx := Bd.exec
  have hby := Bd.bytes
  have hml : c.maxLocals = 2 := hml0
  have hown : s.vm.findClass "com/example/liken/liken/cli/IndexSummaryIndexedPinLaw" = some m.cls := findClass_of_methodNamed Bd.named
  have hnm := (name_of_methodNamed Bd.named Bd.method).1
  have X0 : Stand p l e R_0 s m #[(.long q0)] below meth c s₁ [] 0 0 := Stand.of_body Bd
  have e0 : s₁.heap = h0 := by rw [← hh, Bd.state]; rfl
  have N0 := Fr.nil n0
  show Good p e below (fun o U' => ∃ v L, o = .returned v ∧ Q44 Z q0 mm h0 n0 v U'.heap L ∧ FrameEnd s o U' L R_0.cells R_0.slots) _
  refine Good.back (S' := s₁.setTop (mkF m 0 #[.val (.long q0), .second] [])) (fun t k => castTop (own_ef_44 m q0) k) ?_
  show Good p e below _ (s₁.setTop (mkF m 0 (a_Js q0) []))
  refine Good.back (fun _ k => XS.lloadN X0.here hx rfl (hb hby k44_0.1.1.1) rfl k) ?_
  refine Good.back (X0.ldc2Long hx hown (mvT hZ (wd hw 241 rfl)) (g := (mkF m 1 (a_Js q0) [.long q0])) rfl (hb hby k44_0.1.1.2)) ?_
  refine Good.back (fun _ k => XS.lcmp X0.here hx rfl (hb hby k44_0.1.2.1) rfl k) ?_
  by_cases hc5_1 : (lcmpW q0 (10 : Int64)) < (0 : Int32)
  · refine Good.back (fun _ k => XS.ifNo X0.here hx rfl (hb hby k44_0.1.2.2) rfl ((if0 _ _).trans (tlt hc5_1).2.1) k) ?_
    refine Good.back (fun _ k => XS.iconst X0.here hx rfl (hb hby k44_0.2.1.1) k) ?_
    show Good p e below _ (s₁.setTop (mkF m 9 (a_Js q0) [.int 1]))
    obtain ⟨fs2, hr2, hrun2, hended2, hW2, hsame2⟩ := X0.leave (v := some (.int 1)) (fun h => by rw [Bd.returns] at h; cases h)
    refine Good.done (retI X0 hx Bd.returns (hb hby k44_0.2.1.2) hr2) hrun2 hended2 ⟨_, _, rfl, ?_, ⟨_, rfl⟩, hW2, hsame2.mono (by decide) (by decide)⟩
    show Q44 Z q0 mm h0 n0 _ s₁.heap _
    rw [e0]
    have u := (lw_lt _ _).mp hc5_1
    rw [Int64.lt_iff_toInt_lt, hm, show ((10 : Int64)).toInt = 10 from rfl] at u
    have hl : (own_dg mm).length = 1 := own_dgLen 0 mm (Nat.lt_of_lt_of_le (show mm < 10 by omega) (by decide)) (Or.inl rfl)
    exact ⟨congrArg (fun z => some (Value.int z)) (by unfold own_dl; rw [show q0.toInt.toNat = mm by omega, hl] <;> rfl), N0, rfl⟩
  · refine Good.back (fun _ k => XS.ifYes X0.here hx rfl (pc0 := 5) (pc' := 10) rfl (hb hby k44_0.1.2.2) rfl ((if0 _ _).trans (flt hc5_1).2.1) (by decide) (by decide) k) ?_
    refine Good.back (fun _ k => XS.lloadN X0.here hx rfl (hb hby k44_0.2.2.1) rfl k) ?_
    refine Good.back (X0.ldc2Long hx hown (mvT hZ (wd hw 274 rfl)) (g := (mkF m 11 (a_Js q0) [.long q0])) rfl (hb hby k44_0.2.2.2)) ?_
    refine Good.back (fun _ k => XS.lcmp X0.here hx rfl (hb hby k44_1.1.1.1) rfl k) ?_
    by_cases hc15_3 : (lcmpW q0 (100 : Int64)) < (0 : Int32)
    · refine Good.back (fun _ k => XS.ifNo X0.here hx rfl (hb hby k44_1.1.1.2) rfl ((if0 _ _).trans (tlt hc15_3).2.1) k) ?_
      refine Good.back (fun _ k => XS.iconst X0.here hx rfl (hb hby k44_1.1.2.1) k) ?_
      show Good p e below _ (s₁.setTop (mkF m 19 (a_Js q0) [.int 2]))
      obtain ⟨fs4, hr4, hrun4, hended4, hW4, hsame4⟩ := X0.leave (v := some (.int 2)) (fun h => by rw [Bd.returns] at h; cases h)
      refine Good.done (retI X0 hx Bd.returns (hb hby k44_1.1.2.2) hr4) hrun4 hended4 ⟨_, _, rfl, ?_, ⟨_, rfl⟩, hW4, hsame4.mono (by decide) (by decide)⟩
      show Q44 Z q0 mm h0 n0 _ s₁.heap _
      rw [e0]
      have w : ¬ (q0 < (10 : Int64)) := fun q => hc5_1 ((lw_lt _ _).mpr q)
      rw [Int64.lt_iff_toInt_lt, hm, show ((10 : Int64)).toInt = 10 from rfl] at w
      have u := (lw_lt _ _).mp hc15_3
      rw [Int64.lt_iff_toInt_lt, hm, show ((100 : Int64)).toInt = 100 from rfl] at u
      have hl : (own_dg mm).length = 2 := own_dgLen 1 mm (Nat.lt_of_lt_of_le (show mm < 100 by omega) (by decide)) (Or.inr (Nat.le_trans (show 10 ^ 1 ≤ 10 by decide) (by omega)))
      exact ⟨congrArg (fun z => some (Value.int z)) (by unfold own_dl; rw [show q0.toInt.toNat = mm by omega, hl] <;> rfl), N0, rfl⟩
    · refine Good.back (fun _ k => XS.ifYes X0.here hx rfl (pc0 := 15) (pc' := 20) rfl (hb hby k44_1.1.1.2) rfl ((if0 _ _).trans (flt hc15_3).2.1) (by decide) (by decide) k) ?_
      refine Good.back (fun _ k => XS.lloadN X0.here hx rfl (hb hby k44_1.2.1.1) rfl k) ?_
      refine Good.back (X0.ldc2Long hx hown (mvT hZ (wd hw 275 rfl)) (g := (mkF m 21 (a_Js q0) [.long q0])) rfl (hb hby k44_1.2.1.2)) ?_
      refine Good.back (fun _ k => XS.lcmp X0.here hx rfl (hb hby k44_1.2.2.1) rfl k) ?_
      by_cases hc25_5 : (lcmpW q0 (1000 : Int64)) < (0 : Int32)
      · refine Good.back (fun _ k => XS.ifNo X0.here hx rfl (hb hby k44_1.2.2.2) rfl ((if0 _ _).trans (tlt hc25_5).2.1) k) ?_
        refine Good.back (fun _ k => XS.iconst X0.here hx rfl (hb hby k44_2.1.1.1) k) ?_
        show Good p e below _ (s₁.setTop (mkF m 29 (a_Js q0) [.int 3]))
        obtain ⟨fs6, hr6, hrun6, hended6, hW6, hsame6⟩ := X0.leave (v := some (.int 3)) (fun h => by rw [Bd.returns] at h; cases h)
        refine Good.done (retI X0 hx Bd.returns (hb hby k44_2.1.1.2) hr6) hrun6 hended6 ⟨_, _, rfl, ?_, ⟨_, rfl⟩, hW6, hsame6.mono (by decide) (by decide)⟩
        show Q44 Z q0 mm h0 n0 _ s₁.heap _
        rw [e0]
        have w : ¬ (q0 < (100 : Int64)) := fun q => hc15_3 ((lw_lt _ _).mpr q)
        rw [Int64.lt_iff_toInt_lt, hm, show ((100 : Int64)).toInt = 100 from rfl] at w
        have u := (lw_lt _ _).mp hc25_5
        rw [Int64.lt_iff_toInt_lt, hm, show ((1000 : Int64)).toInt = 1000 from rfl] at u
        have hl : (own_dg mm).length = 3 := own_dgLen 2 mm (Nat.lt_of_lt_of_le (show mm < 1000 by omega) (by decide)) (Or.inr (Nat.le_trans (show 10 ^ 2 ≤ 100 by decide) (by omega)))
        exact ⟨congrArg (fun z => some (Value.int z)) (by unfold own_dl; rw [show q0.toInt.toNat = mm by omega, hl] <;> rfl), N0, rfl⟩
      · refine Good.back (fun _ k => XS.ifYes X0.here hx rfl (pc0 := 25) (pc' := 30) rfl (hb hby k44_1.2.2.2) rfl ((if0 _ _).trans (flt hc25_5).2.1) (by decide) (by decide) k) ?_
        refine Good.back (fun _ k => XS.lloadN X0.here hx rfl (hb hby k44_2.1.2.1) rfl k) ?_
        refine Good.back (X0.ldc2Long hx hown (mvT hZ (wd hw 276 rfl)) (g := (mkF m 31 (a_Js q0) [.long q0])) rfl (hb hby k44_2.1.2.2)) ?_
        refine Good.back (fun _ k => XS.lcmp X0.here hx rfl (hb hby k44_2.2.1.1) rfl k) ?_
        by_cases hc35_7 : (lcmpW q0 (10000 : Int64)) < (0 : Int32)
        · refine Good.back (fun _ k => XS.ifNo X0.here hx rfl (hb hby k44_2.2.1.2) rfl ((if0 _ _).trans (tlt hc35_7).2.1) k) ?_
          refine Good.back (fun _ k => XS.iconst X0.here hx rfl (hb hby k44_2.2.2.1) k) ?_
          show Good p e below _ (s₁.setTop (mkF m 39 (a_Js q0) [.int 4]))
          obtain ⟨fs8, hr8, hrun8, hended8, hW8, hsame8⟩ := X0.leave (v := some (.int 4)) (fun h => by rw [Bd.returns] at h; cases h)
          refine Good.done (retI X0 hx Bd.returns (hb hby k44_2.2.2.2) hr8) hrun8 hended8 ⟨_, _, rfl, ?_, ⟨_, rfl⟩, hW8, hsame8.mono (by decide) (by decide)⟩
          show Q44 Z q0 mm h0 n0 _ s₁.heap _
          rw [e0]
          have w : ¬ (q0 < (1000 : Int64)) := fun q => hc25_5 ((lw_lt _ _).mpr q)
          rw [Int64.lt_iff_toInt_lt, hm, show ((1000 : Int64)).toInt = 1000 from rfl] at w
          have u := (lw_lt _ _).mp hc35_7
          rw [Int64.lt_iff_toInt_lt, hm, show ((10000 : Int64)).toInt = 10000 from rfl] at u
          have hl : (own_dg mm).length = 4 := own_dgLen 3 mm (Nat.lt_of_lt_of_le (show mm < 10000 by omega) (by decide)) (Or.inr (Nat.le_trans (show 10 ^ 3 ≤ 1000 by decide) (by omega)))
          exact ⟨congrArg (fun z => some (Value.int z)) (by unfold own_dl; rw [show q0.toInt.toNat = mm by omega, hl] <;> rfl), N0, rfl⟩
        · refine Good.back (fun _ k => XS.ifYes X0.here hx rfl (pc0 := 35) (pc' := 40) rfl (hb hby k44_2.2.1.2) rfl ((if0 _ _).trans (flt hc35_7).2.1) (by decide) (by decide) k) ?_
          refine Good.back (fun _ k => XS.lloadN X0.here hx rfl (hb hby k44_3.1.1.1) rfl k) ?_
          refine Good.back (X0.ldc2Long hx hown (mvT hZ (wd hw 277 rfl)) (g := (mkF m 41 (a_Js q0) [.long q0])) rfl (hb hby k44_3.1.1.2)) ?_
          refine Good.back (fun _ k => XS.lcmp X0.here hx rfl (hb hby k44_3.1.2.1) rfl k) ?_
          by_cases hc45_9 : (lcmpW q0 (100000 : Int64)) < (0 : Int32)
          · refine Good.back (fun _ k => XS.ifNo X0.here hx rfl (hb hby k44_3.1.2.2) rfl ((if0 _ _).trans (tlt hc45_9).2.1) k) ?_
            refine Good.back (fun _ k => XS.iconst X0.here hx rfl (hb hby k44_3.2.1.1) k) ?_
            show Good p e below _ (s₁.setTop (mkF m 49 (a_Js q0) [.int 5]))
            obtain ⟨fs10, hr10, hrun10, hended10, hW10, hsame10⟩ := X0.leave (v := some (.int 5)) (fun h => by rw [Bd.returns] at h; cases h)
            refine Good.done (retI X0 hx Bd.returns (hb hby k44_3.2.1.2) hr10) hrun10 hended10 ⟨_, _, rfl, ?_, ⟨_, rfl⟩, hW10, hsame10.mono (by decide) (by decide)⟩
            show Q44 Z q0 mm h0 n0 _ s₁.heap _
            rw [e0]
            have w : ¬ (q0 < (10000 : Int64)) := fun q => hc35_7 ((lw_lt _ _).mpr q)
            rw [Int64.lt_iff_toInt_lt, hm, show ((10000 : Int64)).toInt = 10000 from rfl] at w
            have u := (lw_lt _ _).mp hc45_9
            rw [Int64.lt_iff_toInt_lt, hm, show ((100000 : Int64)).toInt = 100000 from rfl] at u
            have hl : (own_dg mm).length = 5 := own_dgLen 4 mm (Nat.lt_of_lt_of_le (show mm < 100000 by omega) (by decide)) (Or.inr (Nat.le_trans (show 10 ^ 4 ≤ 10000 by decide) (by omega)))
            exact ⟨congrArg (fun z => some (Value.int z)) (by unfold own_dl; rw [show q0.toInt.toNat = mm by omega, hl] <;> rfl), N0, rfl⟩
          · refine Good.back (fun _ k => XS.ifYes X0.here hx rfl (pc0 := 45) (pc' := 50) rfl (hb hby k44_3.1.2.2) rfl ((if0 _ _).trans (flt hc45_9).2.1) (by decide) (by decide) k) ?_
            refine Good.back (fun _ k => XS.lloadN X0.here hx rfl (hb hby k44_3.2.2.1) rfl k) ?_
            refine Good.back (X0.ldc2Long hx hown (mvT hZ (wd hw 278 rfl)) (g := (mkF m 51 (a_Js q0) [.long q0])) rfl (hb hby k44_3.2.2.2)) ?_
            refine Good.back (fun _ k => XS.lcmp X0.here hx rfl (hb hby k44_4.1.1.1) rfl k) ?_
            by_cases hc55_11 : (lcmpW q0 (1000000 : Int64)) < (0 : Int32)
            · refine Good.back (fun _ k => XS.ifNo X0.here hx rfl (hb hby k44_4.1.1.2) rfl ((if0 _ _).trans (tlt hc55_11).2.1) k) ?_
              refine Good.back (fun _ k => XS.bipush X0.here hx rfl (hb hby k44_4.1.2.1) k) ?_
              show Good p e below _ (s₁.setTop (mkF m 60 (a_Js q0) [.int 6]))
              obtain ⟨fs12, hr12, hrun12, hended12, hW12, hsame12⟩ := X0.leave (v := some (.int 6)) (fun h => by rw [Bd.returns] at h; cases h)
              refine Good.done (retI X0 hx Bd.returns (hb hby k44_4.1.2.2) hr12) hrun12 hended12 ⟨_, _, rfl, ?_, ⟨_, rfl⟩, hW12, hsame12.mono (by decide) (by decide)⟩
              show Q44 Z q0 mm h0 n0 _ s₁.heap _
              rw [e0]
              have w : ¬ (q0 < (100000 : Int64)) := fun q => hc45_9 ((lw_lt _ _).mpr q)
              rw [Int64.lt_iff_toInt_lt, hm, show ((100000 : Int64)).toInt = 100000 from rfl] at w
              have u := (lw_lt _ _).mp hc55_11
              rw [Int64.lt_iff_toInt_lt, hm, show ((1000000 : Int64)).toInt = 1000000 from rfl] at u
              have hl : (own_dg mm).length = 6 := own_dgLen 5 mm (Nat.lt_of_lt_of_le (show mm < 1000000 by omega) (by decide)) (Or.inr (Nat.le_trans (show 10 ^ 5 ≤ 100000 by decide) (by omega)))
              exact ⟨congrArg (fun z => some (Value.int z)) (by unfold own_dl; rw [show q0.toInt.toNat = mm by omega, hl] <;> rfl), N0, rfl⟩
            · refine Good.back (fun _ k => XS.ifYes X0.here hx rfl (pc0 := 55) (pc' := 61) rfl (hb hby k44_4.1.1.2) rfl ((if0 _ _).trans (flt hc55_11).2.1) (by decide) (by decide) k) ?_
              refine Good.back (fun _ k => XS.lloadN X0.here hx rfl (hb hby k44_4.2.1.1) rfl k) ?_
              refine Good.back (X0.ldc2Long hx hown (mvT hZ (wd hw 279 rfl)) (g := (mkF m 62 (a_Js q0) [.long q0])) rfl (hb hby k44_4.2.1.2)) ?_
              refine Good.back (fun _ k => XS.lcmp X0.here hx rfl (hb hby k44_4.2.2.1) rfl k) ?_
              by_cases hc66_13 : (lcmpW q0 (10000000 : Int64)) < (0 : Int32)
              · refine Good.back (fun _ k => XS.ifNo X0.here hx rfl (hb hby k44_4.2.2.2) rfl ((if0 _ _).trans (tlt hc66_13).2.1) k) ?_
                refine Good.back (fun _ k => XS.bipush X0.here hx rfl (hb hby k44_5.1.1.1) k) ?_
                show Good p e below _ (s₁.setTop (mkF m 71 (a_Js q0) [.int 7]))
                obtain ⟨fs14, hr14, hrun14, hended14, hW14, hsame14⟩ := X0.leave (v := some (.int 7)) (fun h => by rw [Bd.returns] at h; cases h)
                refine Good.done (retI X0 hx Bd.returns (hb hby k44_5.1.1.2) hr14) hrun14 hended14 ⟨_, _, rfl, ?_, ⟨_, rfl⟩, hW14, hsame14.mono (by decide) (by decide)⟩
                show Q44 Z q0 mm h0 n0 _ s₁.heap _
                rw [e0]
                have w : ¬ (q0 < (1000000 : Int64)) := fun q => hc55_11 ((lw_lt _ _).mpr q)
                rw [Int64.lt_iff_toInt_lt, hm, show ((1000000 : Int64)).toInt = 1000000 from rfl] at w
                have u := (lw_lt _ _).mp hc66_13
                rw [Int64.lt_iff_toInt_lt, hm, show ((10000000 : Int64)).toInt = 10000000 from rfl] at u
                have hl : (own_dg mm).length = 7 := own_dgLen 6 mm (Nat.lt_of_lt_of_le (show mm < 10000000 by omega) (by decide)) (Or.inr (Nat.le_trans (show 10 ^ 6 ≤ 1000000 by decide) (by omega)))
                exact ⟨congrArg (fun z => some (Value.int z)) (by unfold own_dl; rw [show q0.toInt.toNat = mm by omega, hl] <;> rfl), N0, rfl⟩
              · refine Good.back (fun _ k => XS.ifYes X0.here hx rfl (pc0 := 66) (pc' := 72) rfl (hb hby k44_4.2.2.2) rfl ((if0 _ _).trans (flt hc66_13).2.1) (by decide) (by decide) k) ?_
                refine Good.back (fun _ k => XS.lloadN X0.here hx rfl (hb hby k44_5.1.2.1) rfl k) ?_
                refine Good.back (X0.ldc2Long hx hown (mvT hZ (wd hw 280 rfl)) (g := (mkF m 73 (a_Js q0) [.long q0])) rfl (hb hby k44_5.1.2.2)) ?_
                refine Good.back (fun _ k => XS.lcmp X0.here hx rfl (hb hby k44_5.2.1.1) rfl k) ?_
                by_cases hc77_15 : (lcmpW q0 (100000000 : Int64)) < (0 : Int32)
                · refine Good.back (fun _ k => XS.ifNo X0.here hx rfl (hb hby k44_5.2.1.2) rfl ((if0 _ _).trans (tlt hc77_15).2.1) k) ?_
                  refine Good.back (fun _ k => XS.bipush X0.here hx rfl (hb hby k44_5.2.2.1) k) ?_
                  show Good p e below _ (s₁.setTop (mkF m 82 (a_Js q0) [.int 8]))
                  obtain ⟨fs16, hr16, hrun16, hended16, hW16, hsame16⟩ := X0.leave (v := some (.int 8)) (fun h => by rw [Bd.returns] at h; cases h)
                  refine Good.done (retI X0 hx Bd.returns (hb hby k44_5.2.2.2) hr16) hrun16 hended16 ⟨_, _, rfl, ?_, ⟨_, rfl⟩, hW16, hsame16.mono (by decide) (by decide)⟩
                  show Q44 Z q0 mm h0 n0 _ s₁.heap _
                  rw [e0]
                  have w : ¬ (q0 < (10000000 : Int64)) := fun q => hc66_13 ((lw_lt _ _).mpr q)
                  rw [Int64.lt_iff_toInt_lt, hm, show ((10000000 : Int64)).toInt = 10000000 from rfl] at w
                  have u := (lw_lt _ _).mp hc77_15
                  rw [Int64.lt_iff_toInt_lt, hm, show ((100000000 : Int64)).toInt = 100000000 from rfl] at u
                  have hl : (own_dg mm).length = 8 := own_dgLen 7 mm (Nat.lt_of_lt_of_le (show mm < 100000000 by omega) (by decide)) (Or.inr (Nat.le_trans (show 10 ^ 7 ≤ 10000000 by decide) (by omega)))
                  exact ⟨congrArg (fun z => some (Value.int z)) (by unfold own_dl; rw [show q0.toInt.toNat = mm by omega, hl] <;> rfl), N0, rfl⟩
                · refine Good.back (fun _ k => XS.ifYes X0.here hx rfl (pc0 := 77) (pc' := 83) rfl (hb hby k44_5.2.1.2) rfl ((if0 _ _).trans (flt hc77_15).2.1) (by decide) (by decide) k) ?_
                  refine Good.back (fun _ k => XS.lloadN X0.here hx rfl (hb hby k44_6.1.1.1) rfl k) ?_
                  refine Good.back (X0.ldc2Long hx hown (mvT hZ (wd hw 10 rfl)) (g := (mkF m 84 (a_Js q0) [.long q0])) rfl (hb hby k44_6.1.1.2)) ?_
                  refine Good.back (fun _ k => XS.lcmp X0.here hx rfl (hb hby k44_6.1.2.1) rfl k) ?_
                  by_cases hc88_17 : (lcmpW q0 (1000000000 : Int64)) < (0 : Int32)
                  · refine Good.back (fun _ k => XS.ifNo X0.here hx rfl (hb hby k44_6.1.2.2) rfl ((if0 _ _).trans (tlt hc88_17).2.1) k) ?_
                    refine Good.back (fun _ k => XS.bipush X0.here hx rfl (hb hby k44_6.2.1.1) k) ?_
                    show Good p e below _ (s₁.setTop (mkF m 93 (a_Js q0) [.int 9]))
                    obtain ⟨fs18, hr18, hrun18, hended18, hW18, hsame18⟩ := X0.leave (v := some (.int 9)) (fun h => by rw [Bd.returns] at h; cases h)
                    refine Good.done (retI X0 hx Bd.returns (hb hby k44_6.2.1.2) hr18) hrun18 hended18 ⟨_, _, rfl, ?_, ⟨_, rfl⟩, hW18, hsame18.mono (by decide) (by decide)⟩
                    show Q44 Z q0 mm h0 n0 _ s₁.heap _
                    rw [e0]
                    have w : ¬ (q0 < (100000000 : Int64)) := fun q => hc77_15 ((lw_lt _ _).mpr q)
                    rw [Int64.lt_iff_toInt_lt, hm, show ((100000000 : Int64)).toInt = 100000000 from rfl] at w
                    have u := (lw_lt _ _).mp hc88_17
                    rw [Int64.lt_iff_toInt_lt, hm, show ((1000000000 : Int64)).toInt = 1000000000 from rfl] at u
                    have hl : (own_dg mm).length = 9 := own_dgLen 8 mm (Nat.lt_of_lt_of_le (show mm < 1000000000 by omega) (by decide)) (Or.inr (Nat.le_trans (show 10 ^ 8 ≤ 100000000 by decide) (by omega)))
                    exact ⟨congrArg (fun z => some (Value.int z)) (by unfold own_dl; rw [show q0.toInt.toNat = mm by omega, hl] <;> rfl), N0, rfl⟩
                  · refine Good.back (fun _ k => XS.ifYes X0.here hx rfl (pc0 := 88) (pc' := 94) rfl (hb hby k44_6.1.2.2) rfl ((if0 _ _).trans (flt hc88_17).2.1) (by decide) (by decide) k) ?_
                    refine Good.back (fun _ k => XS.bipush X0.here hx rfl (hb hby k44_6.2.2.1) k) ?_
                    show Good p e below _ (s₁.setTop (mkF m 96 (a_Js q0) [.int 10]))
                    obtain ⟨fs19, hr19, hrun19, hended19, hW19, hsame19⟩ := X0.leave (v := some (.int 10)) (fun h => by rw [Bd.returns] at h; cases h)
                    refine Good.done (retI X0 hx Bd.returns (hb hby k44_6.2.2.2) hr19) hrun19 hended19 ⟨_, _, rfl, ?_, ⟨_, rfl⟩, hW19, hsame19.mono (by decide) (by decide)⟩
                    show Q44 Z q0 mm h0 n0 _ s₁.heap _
                    rw [e0]
                    have w : ¬ (q0 < (1000000000 : Int64)) := fun q => hc88_17 ((lw_lt _ _).mpr q)
                    rw [Int64.lt_iff_toInt_lt, hm, show ((1000000000 : Int64)).toInt = 1000000000 from rfl] at w
                    have hl : (own_dg mm).length = 10 := own_dgLen 9 mm (Nat.lt_of_lt_of_le (show mm < 10000000000 by omega) (by decide)) (Or.inr (Nat.le_trans (show 10 ^ 9 ≤ 1000000000 by decide) (by omega)))
                    exact ⟨congrArg (fun z => some (Value.int z)) (by unfold own_dl; rw [show q0.toInt.toNat = mm by omega, hl] <;> rfl), N0, rfl⟩
abbrev B43 := method_3_code
theorem k43_0 : ((own_A B43 0 (.lload_n 0) 1 ∧ own_A B43 1 (.lconst 0) 1) ∧ own_A B43 2 .lcmp 1 ∧ own_A B43 3 (.ifCond .ge 8) 3) ∧ (own_A B43 6 (.lload_n 0) 1 ∧ own_A B43 7 .lneg 1) ∧ own_A B43 8 (.goto 4) 3 ∧ own_A B43 11 (.lload_n 0) 1 := by decide +kernel
theorem k43_1 : ((own_A B43 12 (.lstore_n 2) 1 ∧ own_A B43 13 (.lload_n 0) 1) ∧ own_A B43 14 (.lconst 0) 1 ∧ own_A B43 15 .lcmp 1) ∧ (own_A B43 16 (.ifCond .ge 7) 3 ∧ own_A B43 19 (.iconst 1) 1) ∧ own_A B43 20 (.goto 4) 3 ∧ own_A B43 23 (.iconst 0) 1 := by decide +kernel
theorem k43_2 : (own_A B43 24 (.lload_n 2) 1 ∧ own_A B43 25 (.invokestatic 25) 3) ∧ own_A B43 28 .iadd 1 ∧ own_A B43 29 .ireturn 1 := by decide +kernel
theorem own_ef_43 (m : MethodId) (x0 : Int64) : entryFrame m #[(.long x0)] 4 = mkF m 0 #[.val (.long x0), .second, .unset, .unset] [] := by first | (simp [entryFrame, mkF, argsToLocals, Value.category]; done) | rfl
def Q43 (Z : State) (q0 : Int64) (h0 : Heap) (n0 : Nat) (v : Option Value) (h : Heap) (L : List Loc) : Prop := v = some (.int (own_sz q0)) ∧ Fr n0 L ∧ h = h0
set_option maxRecDepth 65536 in
set_option maxHeartbeats 40000000 in
theorem rm43 (l : Launch) (Z : State) (a0 : Array Value) (hw : ∀ d ∈ tables_1, d.before a0 Z = true) (ws : List Jvm.Cond) (q0 : Int64) (h0 : Heap) (n0 : Nat) (Z0 : n0 ≤ h0.size) (hv : -4294967296 ≤ q0.toInt ∧ q0.toInt ≤ 4294967296) :
    MetFree l y_48 (head1 (Jvm.Cond.code y_48 method_3_code 4 (some .int) :: ws) R_1) (fun a U => a = #[(.long q0)] ∧ Z.Warmed39 U.vm ∧ U.heap = h0) (fun _ _ _ _ _ => True) (fun _ U o U' => ∃ v L, o = .returned v ∧ Q43 Z q0 h0 n0 v U'.heap L ∧ FrameEnd U o U' L R_1.cells R_1.slots) := by
  refine MetFree.of_bodySF (plainFor_of_name own_pn10) hisR ?_
  intro p e s m args below meth c s₁ Bd hml0 hP hK
  obtain ⟨rfl, hZ, hh⟩ := hP
  have hx := Bd.exec
  have hby := Bd.bytes
  have hml : c.maxLocals = 4 := hml0
  have hown : s.vm.findClass "com/example/liken/liken/cli/IndexSummaryIndexedPinLaw" = some m.cls := findClass_of_methodNamed Bd.named
  have hnm := (name_of_methodNamed Bd.named Bd.method).1
  have X0 : Stand p l e R_1 s m #[(.long q0)] below meth c s₁ [] 0 0 := Stand.of_body Bd
  have e0 : s₁.heap = h0 := by rw [← hh, Bd.state]; rfl
  have N0 := Fr.nil n0
  show Good p e below (fun o U' => ∃ v L, o = .returned v ∧ Q43 Z q0 h0 n0 v U'.heap L ∧ FrameEnd s o U' L R_1.cells R_1.slots) _
  refine Good.back (S' := s₁.setTop (mkF m 0 #[.val (.long q0), .second, .unset, .unset] [])) (fun t k => castTop (own_ef_43 m q0) k) ?_
  show Good p e below _ (s₁.setTop (mkF m 0 (a_Jsuu q0) []))
  refine Good.back (fun _ k => XS.lloadN X0.here hx rfl (hb hby k43_0.1.1.1) rfl k) ?_
  refine Good.back (fun _ k => XS.lconst X0.here hx rfl (hb hby k43_0.1.1.2) k) ?_
  refine Good.back (fun _ k => XS.lcmp X0.here hx rfl (hb hby k43_0.1.2.1) rfl k) ?_
  by_cases hc3_1 : (lcmpW q0 (0 : Int64)) < (0 : Int32)
  · refine Good.back (fun _ k => XS.ifNo X0.here hx rfl (hb hby k43_0.1.2.2) rfl ((if0 _ _).trans (tlt hc3_1).2.1) k) ?_
    refine Good.back (fun _ k => XS.lloadN X0.here hx rfl (hb hby k43_0.2.1.1) rfl k) ?_
    refine Good.back (fun _ k => XS.lneg X0.here hx rfl (hb hby k43_0.2.1.2) rfl k) ?_
    show Good p e below _ (s₁.setTop (mkF m 8 (a_Jsuu q0) [.long (-q0)]))
    refine Good.back (fun _ k => XS.goto X0.here hx rfl (pc0 := 8) (pc' := 12) rfl (hb hby k43_0.2.2.1) (by decide) (by decide) k) ?_
    refine Good.back (fun _ k => XS.lstoreN X0.here hx rfl (hb hby k43_1.1.1.1) rfl (l' := (a_JsJs q0 (-q0))) rfl k) ?_
    refine Good.back (fun _ k => XS.lloadN X0.here hx rfl (hb hby k43_1.1.1.2) rfl k) ?_
    refine Good.back (fun _ k => XS.lconst X0.here hx rfl (hb hby k43_1.1.2.1) k) ?_
    refine Good.back (fun _ k => XS.lcmp X0.here hx rfl (hb hby k43_1.1.2.2) rfl k) ?_
    show Good p e below _ (s₁.setTop (mkF m 16 (a_JsJs q0 (-q0)) [.int (lcmpW q0 (0 : Int64))]))
    refine Good.back (fun _ k => XS.ifNo X0.here hx rfl (hb hby k43_1.2.1.1) rfl ((if0 _ _).trans (tlt hc3_1).2.1) k) ?_
    refine Good.back (fun _ k => XS.iconst X0.here hx rfl (hb hby k43_1.2.1.2) k) ?_
    refine Good.back (fun _ k => XS.goto X0.here hx rfl (pc0 := 20) (pc' := 24) rfl (hb hby k43_1.2.2.1) (by decide) (by decide) k) ?_
    refine Good.back (fun _ k => XS.lloadN X0.here hx rfl (hb hby k43_2.1.1) rfl k) ?_
    obtain ⟨_, _, ⟨T2, L2, k2, n2⟩, -, X2, ⟨Lc2, hQ2, l2, y2, z2⟩, st2⟩ := Jvm.LawKit.callS X0 hx (y := y_47) hown (mvT hZ (wd hw 238 rfl)) (mvT hZ (wd hw 239 rfl)) (mvT hZ (wd hw 236 rfl)) (mvT hZ (wd hw 240 rfl)) (by decide) (backOf (W := 1) (rm44 l Z a0 hw [] (-q0) ((-q0.toInt).toNat) h0 n0 Z0 (own_lnegI (own_lneg0 hc3_1) hv.1) (by omega)) hZ (wd hw 240 rfl) (wd hw 236 rfl) (by decide) (by decide)) (g := (mkF m 25 (a_JsJs q0 (-q0)) [.long (-q0), .int 1])) rfl (by rw [hml]; rfl) (argsL := [(.long (-q0))]) (rest := [(.int 1)]) (lenOf own_pd11 rfl) rfl (by show 2 * 0 + _ ≤ _; exact Nat.le_of_eq rfl) (hb hby k43_2.1.2) (fun _ _ => ⟨rfl, e0, (by decide : 0 + 0 ≤ _), (by decide : 0 + 0 ≤ _)⟩)
    dsimp only [Pt.U, Pt.locs, Pt.cells, Pt.slots] at X2 l2 y2 z2 st2 hQ2
    subst l2 y2 z2
    obtain ⟨rfl, N2q, eh2⟩ := hQ2
    have N2 := Fr.app N0 N2q
    refine Good.back st2 ?_
    refine Good.back (fun _ k => XS.iadd X2.here hx rfl (hb hby k43_2.2.1) rfl k) ?_
    show Good p e below _ (T2.setTop (mkF m 29 (a_JsJs q0 (-q0)) [.int ((1 : Int32) + (own_dl (-q0)))]))
    obtain ⟨fs3, hr3, hrun3, hended3, hW3, hsame3⟩ := X2.leave (v := some (.int ((1 : Int32) + (own_dl (-q0))))) (fun h => by rw [Bd.returns] at h; cases h)
    refine Good.done (retI X2 hx Bd.returns (hb hby k43_2.2.2) hr3) hrun3 hended3 ⟨_, _, rfl, ?_, ⟨_, rfl⟩, hW3, hsame3.mono (by decide) (by decide)⟩
    show Q43 Z q0 h0 n0 _ T2.heap _
    rw [eh2]
    exact ⟨congrArg (fun z => some (Value.int z)) (own_lenN hc3_1 hv), N2, rfl⟩
  · refine Good.back (fun _ k => XS.ifYes X0.here hx rfl (pc0 := 3) (pc' := 11) rfl (hb hby k43_0.1.2.2) rfl ((if0 _ _).trans (flt hc3_1).2.1) (by decide) (by decide) k) ?_
    refine Good.back (fun _ k => XS.lloadN X0.here hx rfl (hb hby k43_0.2.2.2) rfl k) ?_
    refine Good.back (fun _ k => XS.lstoreN X0.here hx rfl (hb hby k43_1.1.1.1) rfl (l' := (a_JsJs q0 q0)) rfl k) ?_
    show Good p e below _ (s₁.setTop (mkF m 13 (a_JsJs q0 q0) []))
    refine Good.back (fun _ k => XS.lloadN X0.here hx rfl (hb hby k43_1.1.1.2) rfl k) ?_
    refine Good.back (fun _ k => XS.lconst X0.here hx rfl (hb hby k43_1.1.2.1) k) ?_
    refine Good.back (fun _ k => XS.lcmp X0.here hx rfl (hb hby k43_1.1.2.2) rfl k) ?_
    show Good p e below _ (s₁.setTop (mkF m 16 (a_JsJs q0 q0) [.int (lcmpW q0 (0 : Int64))]))
    refine Good.back (fun _ k => XS.ifYes X0.here hx rfl (pc0 := 16) (pc' := 23) rfl (hb hby k43_1.2.1.1) rfl ((if0 _ _).trans (flt hc3_1).2.1) (by decide) (by decide) k) ?_
    refine Good.back (fun _ k => XS.iconst X0.here hx rfl (hb hby k43_1.2.2.2) k) ?_
    refine Good.back (fun _ k => XS.lloadN X0.here hx rfl (hb hby k43_2.1.1) rfl k) ?_
    obtain ⟨_, _, ⟨T4, L4, k4, n4⟩, -, X4, ⟨Lc4, hQ4, l4, y4, z4⟩, st4⟩ := Jvm.LawKit.callS X0 hx (y := y_47) hown (mvT hZ (wd hw 238 rfl)) (mvT hZ (wd hw 239 rfl)) (mvT hZ (wd hw 236 rfl)) (mvT hZ (wd hw 240 rfl)) (by decide) (backOf (W := 1) (rm44 l Z a0 hw [] q0 (q0.toInt.toNat) h0 n0 Z0 (by have := own_lnn hc3_1; omega) (by omega)) hZ (wd hw 240 rfl) (wd hw 236 rfl) (by decide) (by decide)) (g := (mkF m 25 (a_JsJs q0 q0) [.long q0, .int 0])) rfl (by rw [hml]; rfl) (argsL := [(.long q0)]) (rest := [(.int 0)]) (lenOf own_pd11 rfl) rfl (by show 2 * 0 + _ ≤ _; exact Nat.le_of_eq rfl) (hb hby k43_2.1.2) (fun _ _ => ⟨rfl, e0, (by decide : 0 + 0 ≤ _), (by decide : 0 + 0 ≤ _)⟩)
    dsimp only [Pt.U, Pt.locs, Pt.cells, Pt.slots] at X4 l4 y4 z4 st4 hQ4
    subst l4 y4 z4
    obtain ⟨rfl, N4q, eh4⟩ := hQ4
    have N4 := Fr.app N0 N4q
    refine Good.back st4 ?_
    refine Good.back (fun _ k => XS.iadd X4.here hx rfl (hb hby k43_2.2.1) rfl k) ?_
    show Good p e below _ (T4.setTop (mkF m 29 (a_JsJs q0 q0) [.int ((0 : Int32) + (own_dl q0))]))
    obtain ⟨fs5, hr5, hrun5, hended5, hW5, hsame5⟩ := X4.leave (v := some (.int ((0 : Int32) + (own_dl q0)))) (fun h => by rw [Bd.returns] at h; cases h)
    refine Good.done (retI X4 hx Bd.returns (hb hby k43_2.2.2) hr5) hrun5 hended5 ⟨_, _, rfl, ?_, ⟨_, rfl⟩, hW5, hsame5.mono (by decide) (by decide)⟩
    show Q43 Z q0 h0 n0 _ T4.heap _
    rw [eh4]
    exact ⟨congrArg (fun z => some (Value.int z)) (own_lenP hc3_1), N4, rfl⟩
theorem own_pd34 : parseMethodDescriptor "(I)C" = some ⟨[.int], some .char⟩ := by decide +kernel
abbrev B45 := method_4_code
theorem k45_0 : ((own_A B45 0 (.lload_n 2) 1 ∧ own_A B45 1 (.lconst 0) 1) ∧ own_A B45 2 .lcmp 1 ∧ own_A B45 3 (.ifCond .ge 7) 3) ∧ (own_A B45 6 (.iconst 1) 1 ∧ own_A B45 7 (.goto 4) 3) ∧ own_A B45 10 (.iconst 0) 1 ∧ own_A B45 11 (.istore 4) 2 := by decide +kernel
theorem k45_1 : ((own_A B45 13 (.iload 4) 2 ∧ own_A B45 15 (.ifCond .eq 8) 3) ∧ own_A B45 18 (.lload_n 2) 1 ∧ own_A B45 19 .lneg 1) ∧ (own_A B45 20 (.goto 4) 3 ∧ own_A B45 23 (.lload_n 2) 1) ∧ own_A B45 24 (.lstore 5) 2 ∧ own_A B45 26 (.lload 5) 2 := by decide +kernel
theorem k45_2 : ((own_A B45 28 (.invokestatic 25) 3 ∧ own_A B45 31 (.istore 7) 2) ∧ own_A B45 33 (.iload_n 1) 1 ∧ own_A B45 34 (.iload 4) 2) ∧ (own_A B45 36 (.ifCond .eq 7) 3 ∧ own_A B45 39 (.iconst 1) 1) ∧ own_A B45 40 (.goto 4) 3 ∧ own_A B45 43 (.iconst 0) 1 := by decide +kernel
theorem k45_3 : ((own_A B45 44 .iadd 1 ∧ own_A B45 45 (.iload 7) 2) ∧ own_A B45 47 .iadd 1 ∧ own_A B45 48 (.iconst 1) 1) ∧ (own_A B45 49 .isub 1 ∧ own_A B45 50 (.istore 8) 2) ∧ own_A B45 52 (.iload 4) 2 ∧ own_A B45 54 (.ifCond .eq 13) 3 := by decide +kernel
theorem k45_4 : ((own_A B45 57 (.aload_n 0) 1 ∧ own_A B45 58 (.iload_n 1) 1) ∧ own_A B45 59 (.invokevirtual 31) 3 ∧ own_A B45 62 (.bipush 45) 2) ∧ (own_A B45 64 (.if_icmp .ne 7) 3 ∧ own_A B45 67 (.iconst 1) 1) ∧ own_A B45 68 (.goto 4) 3 ∧ own_A B45 72 (.istore 9) 2 := by decide +kernel
theorem k45_5 : ((own_A B45 74 (.iload 9) 2 ∧ own_A B45 76 (.ifCond .eq 27) 3) ∧ own_A B45 79 (.aload_n 0) 1 ∧ own_A B45 80 (.iload 8) 2) ∧ (own_A B45 82 (.invokevirtual 31) 3 ∧ own_A B45 85 (.bipush 48) 2) ∧ own_A B45 87 (.lload 5) 2 ∧ own_A B45 89 (.ldc2_w 7) 3 := by decide +kernel
theorem k45_6 : ((own_A B45 92 .lrem 1 ∧ own_A B45 93 .l2i 1) ∧ own_A B45 94 .iadd 1 ∧ own_A B45 95 .i2c 1) ∧ (own_A B45 96 (.if_icmp .ne 7) 3 ∧ own_A B45 99 (.iconst 1) 1) ∧ own_A B45 100 (.goto 4) 3 ∧ own_A B45 104 (.istore 9) 2 := by decide +kernel
theorem k45_7 : ((own_A B45 106 (.iload 9) 2 ∧ own_A B45 108 (.ifCond .eq 39) 3) ∧ own_A B45 111 (.iload 7) 2 ∧ own_A B45 113 (.iconst 2) 1) ∧ (own_A B45 114 (.if_icmp .lt 29) 3 ∧ own_A B45 117 (.aload_n 0) 1) ∧ own_A B45 118 (.iload 8) 2 ∧ own_A B45 120 (.iconst 1) 1 := by decide +kernel
theorem k45_8 : ((own_A B45 121 .isub 1 ∧ own_A B45 122 (.invokevirtual 31) 3) ∧ own_A B45 125 (.bipush 48) 2 ∧ own_A B45 127 (.lload 5) 2) ∧ (own_A B45 129 (.ldc2_w 7) 3 ∧ own_A B45 132 .ldiv 1) ∧ own_A B45 133 (.ldc2_w 7) 3 ∧ own_A B45 136 .lrem 1 := by decide +kernel
theorem k45_9 : ((own_A B45 137 .l2i 1 ∧ own_A B45 138 .iadd 1) ∧ own_A B45 139 .i2c 1 ∧ own_A B45 140 (.if_icmp .ne 7) 3) ∧ (own_A B45 143 (.iconst 1) 1 ∧ own_A B45 144 (.goto 4) 3) ∧ own_A B45 148 (.istore 9) 2 ∧ own_A B45 150 (.iload 9) 2 := by decide +kernel
theorem k45_10 : ((own_A B45 152 (.ifCond .eq 39) 3 ∧ own_A B45 155 (.iload 7) 2) ∧ own_A B45 157 (.iconst 3) 1 ∧ own_A B45 158 (.if_icmp .lt 29) 3) ∧ (own_A B45 161 (.aload_n 0) 1 ∧ own_A B45 162 (.iload 8) 2) ∧ own_A B45 164 (.iconst 2) 1 ∧ own_A B45 165 .isub 1 := by decide +kernel
theorem k45_11 : ((own_A B45 166 (.invokevirtual 31) 3 ∧ own_A B45 169 (.bipush 48) 2) ∧ own_A B45 171 (.lload 5) 2 ∧ own_A B45 173 (.ldc2_w 9) 3) ∧ (own_A B45 176 .ldiv 1 ∧ own_A B45 177 (.ldc2_w 7) 3) ∧ own_A B45 180 .lrem 1 ∧ own_A B45 181 .l2i 1 := by decide +kernel
theorem k45_12 : ((own_A B45 182 .iadd 1 ∧ own_A B45 183 .i2c 1) ∧ own_A B45 184 (.if_icmp .ne 7) 3 ∧ own_A B45 187 (.iconst 1) 1) ∧ (own_A B45 188 (.goto 4) 3 ∧ own_A B45 192 (.istore 9) 2) ∧ own_A B45 194 (.iload 9) 2 ∧ own_A B45 196 (.ifCond .eq 39) 3 := by decide +kernel
theorem k45_13 : ((own_A B45 199 (.iload 7) 2 ∧ own_A B45 201 (.iconst 4) 1) ∧ own_A B45 202 (.if_icmp .lt 29) 3 ∧ own_A B45 205 (.aload_n 0) 1) ∧ (own_A B45 206 (.iload 8) 2 ∧ own_A B45 208 (.iconst 3) 1) ∧ own_A B45 209 .isub 1 ∧ own_A B45 210 (.invokevirtual 31) 3 := by decide +kernel
theorem k45_14 : ((own_A B45 213 (.bipush 48) 2 ∧ own_A B45 215 (.lload 5) 2) ∧ own_A B45 217 (.ldc2_w 11) 3 ∧ own_A B45 220 .ldiv 1) ∧ (own_A B45 221 (.ldc2_w 7) 3 ∧ own_A B45 224 .lrem 1) ∧ own_A B45 225 .l2i 1 ∧ own_A B45 226 .iadd 1 := by decide +kernel
theorem k45_15 : ((own_A B45 227 .i2c 1 ∧ own_A B45 228 (.if_icmp .ne 7) 3) ∧ own_A B45 231 (.iconst 1) 1 ∧ own_A B45 232 (.goto 4) 3) ∧ (own_A B45 236 (.istore 9) 2 ∧ own_A B45 238 (.iload 9) 2) ∧ own_A B45 240 (.ifCond .eq 39) 3 ∧ own_A B45 243 (.iload 7) 2 := by decide +kernel
theorem k45_16 : ((own_A B45 245 (.iconst 5) 1 ∧ own_A B45 246 (.if_icmp .lt 29) 3) ∧ own_A B45 249 (.aload_n 0) 1 ∧ own_A B45 250 (.iload 8) 2) ∧ (own_A B45 252 (.iconst 4) 1 ∧ own_A B45 253 .isub 1) ∧ own_A B45 254 (.invokevirtual 31) 3 ∧ own_A B45 257 (.bipush 48) 2 := by decide +kernel
theorem k45_17 : ((own_A B45 259 (.lload 5) 2 ∧ own_A B45 261 (.ldc2_w 13) 3) ∧ own_A B45 264 .ldiv 1 ∧ own_A B45 265 (.ldc2_w 7) 3) ∧ (own_A B45 268 .lrem 1 ∧ own_A B45 269 .l2i 1) ∧ own_A B45 270 .iadd 1 ∧ own_A B45 271 .i2c 1 := by decide +kernel
theorem k45_18 : ((own_A B45 272 (.if_icmp .ne 7) 3 ∧ own_A B45 275 (.iconst 1) 1) ∧ own_A B45 276 (.goto 4) 3 ∧ own_A B45 280 (.istore 9) 2) ∧ (own_A B45 282 (.iload 9) 2 ∧ own_A B45 284 (.ifCond .eq 40) 3) ∧ own_A B45 287 (.iload 7) 2 ∧ own_A B45 289 (.bipush 6) 2 := by decide +kernel
theorem k45_19 : ((own_A B45 291 (.if_icmp .lt 29) 3 ∧ own_A B45 294 (.aload_n 0) 1) ∧ own_A B45 295 (.iload 8) 2 ∧ own_A B45 297 (.iconst 5) 1) ∧ (own_A B45 298 .isub 1 ∧ own_A B45 299 (.invokevirtual 31) 3) ∧ own_A B45 302 (.bipush 48) 2 ∧ own_A B45 304 (.lload 5) 2 := by decide +kernel
theorem k45_20 : ((own_A B45 306 (.ldc2_w 15) 3 ∧ own_A B45 309 .ldiv 1) ∧ own_A B45 310 (.ldc2_w 7) 3 ∧ own_A B45 313 .lrem 1) ∧ (own_A B45 314 .l2i 1 ∧ own_A B45 315 .iadd 1) ∧ own_A B45 316 .i2c 1 ∧ own_A B45 317 (.if_icmp .ne 7) 3 := by decide +kernel
theorem k45_21 : ((own_A B45 320 (.iconst 1) 1 ∧ own_A B45 321 (.goto 4) 3) ∧ own_A B45 325 (.istore 9) 2 ∧ own_A B45 327 (.iload 9) 2) ∧ (own_A B45 329 (.ifCond .eq 41) 3 ∧ own_A B45 332 (.iload 7) 2) ∧ own_A B45 334 (.bipush 7) 2 ∧ own_A B45 336 (.if_icmp .lt 30) 3 := by decide +kernel
theorem k45_22 : ((own_A B45 339 (.aload_n 0) 1 ∧ own_A B45 340 (.iload 8) 2) ∧ own_A B45 342 (.bipush 6) 2 ∧ own_A B45 344 .isub 1) ∧ (own_A B45 345 (.invokevirtual 31) 3 ∧ own_A B45 348 (.bipush 48) 2) ∧ own_A B45 350 (.lload 5) 2 ∧ own_A B45 352 (.ldc2_w 17) 3 := by decide +kernel
theorem k45_23 : ((own_A B45 355 .ldiv 1 ∧ own_A B45 356 (.ldc2_w 7) 3) ∧ own_A B45 359 .lrem 1 ∧ own_A B45 360 .l2i 1) ∧ (own_A B45 361 .iadd 1 ∧ own_A B45 362 .i2c 1) ∧ own_A B45 363 (.if_icmp .ne 7) 3 ∧ own_A B45 366 (.iconst 1) 1 := by decide +kernel
theorem k45_24 : ((own_A B45 367 (.goto 4) 3 ∧ own_A B45 371 (.istore 9) 2) ∧ own_A B45 373 (.iload 9) 2 ∧ own_A B45 375 (.ifCond .eq 41) 3) ∧ (own_A B45 378 (.iload 7) 2 ∧ own_A B45 380 (.bipush 8) 2) ∧ own_A B45 382 (.if_icmp .lt 30) 3 ∧ own_A B45 385 (.aload_n 0) 1 := by decide +kernel
theorem k45_25 : ((own_A B45 386 (.iload 8) 2 ∧ own_A B45 388 (.bipush 7) 2) ∧ own_A B45 390 .isub 1 ∧ own_A B45 391 (.invokevirtual 31) 3) ∧ (own_A B45 394 (.bipush 48) 2 ∧ own_A B45 396 (.lload 5) 2) ∧ own_A B45 398 (.ldc2_w 19) 3 ∧ own_A B45 401 .ldiv 1 := by decide +kernel
theorem k45_26 : ((own_A B45 402 (.ldc2_w 7) 3 ∧ own_A B45 405 .lrem 1) ∧ own_A B45 406 .l2i 1 ∧ own_A B45 407 .iadd 1) ∧ (own_A B45 408 .i2c 1 ∧ own_A B45 409 (.if_icmp .ne 7) 3) ∧ own_A B45 412 (.iconst 1) 1 ∧ own_A B45 413 (.goto 4) 3 := by decide +kernel
theorem k45_27 : ((own_A B45 417 (.istore 9) 2 ∧ own_A B45 419 (.iload 9) 2) ∧ own_A B45 421 (.ifCond .eq 41) 3 ∧ own_A B45 424 (.iload 7) 2) ∧ (own_A B45 426 (.bipush 9) 2 ∧ own_A B45 428 (.if_icmp .lt 30) 3) ∧ own_A B45 431 (.aload_n 0) 1 ∧ own_A B45 432 (.iload 8) 2 := by decide +kernel
theorem k45_28 : ((own_A B45 434 (.bipush 8) 2 ∧ own_A B45 436 .isub 1) ∧ own_A B45 437 (.invokevirtual 31) 3 ∧ own_A B45 440 (.bipush 48) 2) ∧ (own_A B45 442 (.lload 5) 2 ∧ own_A B45 444 (.ldc2_w 21) 3) ∧ own_A B45 447 .ldiv 1 ∧ own_A B45 448 (.ldc2_w 7) 3 := by decide +kernel
theorem k45_29 : ((own_A B45 451 .lrem 1 ∧ own_A B45 452 .l2i 1) ∧ own_A B45 453 .iadd 1 ∧ own_A B45 454 .i2c 1) ∧ (own_A B45 455 (.if_icmp .ne 7) 3 ∧ own_A B45 458 (.iconst 1) 1) ∧ own_A B45 459 (.goto 4) 3 ∧ own_A B45 463 (.istore 9) 2 := by decide +kernel
theorem k45_30 : ((own_A B45 465 (.iload 9) 2 ∧ own_A B45 467 (.ifCond .eq 41) 3) ∧ own_A B45 470 (.iload 7) 2 ∧ own_A B45 472 (.bipush 10) 2) ∧ (own_A B45 474 (.if_icmp .lt 30) 3 ∧ own_A B45 477 (.aload_n 0) 1) ∧ own_A B45 478 (.iload 8) 2 ∧ own_A B45 480 (.bipush 9) 2 := by decide +kernel
theorem k45_31 : ((own_A B45 482 .isub 1 ∧ own_A B45 483 (.invokevirtual 31) 3) ∧ own_A B45 486 (.bipush 48) 2 ∧ own_A B45 488 (.lload 5) 2) ∧ (own_A B45 490 (.ldc2_w 23) 3 ∧ own_A B45 493 .ldiv 1) ∧ own_A B45 494 (.ldc2_w 7) 3 ∧ own_A B45 497 .lrem 1 := by decide +kernel
theorem k45_32 : ((own_A B45 498 .l2i 1 ∧ own_A B45 499 .iadd 1) ∧ own_A B45 500 .i2c 1 ∧ own_A B45 501 (.if_icmp .ne 7) 3) ∧ (own_A B45 504 (.iconst 1) 1 ∧ own_A B45 505 (.goto 4) 3) ∧ own_A B45 509 (.istore 9) 2 ∧ own_A B45 511 (.iload 9) 2 := by decide +kernel
theorem k45_33 : own_A B45 513 .ireturn 1 := by decide +kernel
theorem own_ef_45 (m : MethodId) (x0 : Addr) (x1 : Int32) (x2 : Int64) : entryFrame m #[(.ref x0), (.int x1), (.long x2)] 10 = mkF m 0 #[.val (.ref x0), .val (.int x1), .val (.long x2), .second, .unset, .unset, .unset, .unset, .unset, .unset] [] := by first | (simp [entryFrame, mkF, argsToLocals, Value.category]; done) | rfl
def Q45 (Z : State) (r0 : Addr) (p1 : Int32) (q2 : Int64) (cs : Int32) (sv : Addr) (ks : ClassId) (zs : Int32) (cl : List Int32) (vf : Value) (pn : Nat) (h0 : Heap) (n0 : Nat) (v : Option Value) (h : Heap) (L : List Loc) : Prop := v = some (.int 1) ∧ Fr n0 L ∧ h = h0
set_option maxRecDepth 65536 in
set_option maxHeartbeats 40000000 in
theorem rm45 (l : Launch) (Z : State) (a0 : Array Value) (hw : ∀ d ∈ tables_1, d.before a0 Z = true) (ws : List Jvm.Cond) (r0 : Addr) (p1 : Int32) (q2 : Int64) (cs : Int32) (sv : Addr) (ks : ClassId) (zs : Int32) (cl : List Int32) (vf : Value) (pn : Nat) (h0 : Heap) (n0 : Nat) (Z0 : n0 ≤ h0.size) (S_cs : Sta Z h0 "java/lang/String" "COMPACT_STRINGS" "Z" (.int cs)) (hcs : ¬ (cs = (0 : Int32))) (Es : Exa Z h0 r0 "java/lang/String") (Fsv : Fld Z h0 r0 "java/lang/String" "value" "[B" (.ref sv)) (Fsc : Fld Z h0 r0 "java/lang/String" "coder" "B" (.int 0)) (Vs : Arv Z h0 sv ks .byte zs (own_v cl) (.int 0)) (hzs : zs.toInt = (cl.length : Int)) (S_f : Sta Z h0 "jdk/internal/util/Preconditions" "SIOOBE_FORMATTER" "Ljava/util/function/BiFunction;" vf) (hfm : vf = .null ∨ ∃ a : Addr, vf = .ref a) (hv : -4294967296 ≤ q2.toInt ∧ q2.toInt ≤ 4294967296) (hp : p1.toInt = (pn : Int)) (hpn : pn ≤ 1000) (hat : ∀ j, j < (own_sd q2).length → cl[pn + j]? = (own_sd q2)[j]?) :
    MetFree l y_49 (head1 (Jvm.Cond.code y_49 method_4_code 10 (some .boolean) :: ws) R_23) (fun a U => a = #[(.ref r0), (.int p1), (.long q2)] ∧ Z.Warmed39 U.vm ∧ U.heap = h0) (fun _ _ _ _ _ => True) (fun _ U o U' => ∃ v L, o = .returned v ∧ Q45 Z r0 p1 q2 cs sv ks zs cl vf pn h0 n0 v U'.heap L ∧ FrameEnd U o U' L R_23.cells R_23.slots) := by
  refine MetFree.of_bodySF (plainFor_of_name own_pn10) hisR ?_
  intro p e s m args below meth c s₁ Bd hml0 hP hK
  obtain ⟨rfl, hZ, hh⟩ := hP
  have hx := Bd.exec
  have hby := Bd.bytes
  have hml : c.maxLocals = 10 := hml0
  have hown : s.vm.findClass "com/example/liken/liken/cli/IndexSummaryIndexedPinLaw" = some m.cls := findClass_of_methodNamed Bd.named
  have hnm := (name_of_methodNamed Bd.named Bd.method).1
  have X0 : Stand p l e R_23 s m #[(.ref r0), (.int p1), (.long q2)] below meth c s₁ [] 0 0 := Stand.of_body Bd
  have e0 : s₁.heap = h0 := by rw [← hh, Bd.state]; rfl
  have N0 := Fr.nil n0
  show Good p e below (fun o U' => ∃ v L, o = .returned v ∧ Q45 Z r0 p1 q2 cs sv ks zs cl vf pn h0 n0 v U'.heap L ∧ FrameEnd s o U' L R_23.cells R_23.slots) _
  refine Good.back (S' := s₁.setTop (mkF m 0 #[.val (.ref r0), .val (.int p1), .val (.long q2), .second, .unset, .unset, .unset, .unset, .unset, .unset] [])) (fun t k => castTop (own_ef_45 m r0 p1 q2) k) ?_
  show Good p e below _ (s₁.setTop (mkF m 0 (a_RIJsu6 r0 p1 q2) []))
  have key511 : ∀ (ng : Int32) (mq : Int64) (nn : Int32) (ee : Int32) (mm : Nat) (eN : Nat) (Tk511 : State) (lk511 : List Loc) (Xk511 : Stand p l e R_23 s m #[(.ref r0), (.int p1), (.long q2)] below meth c Tk511 lk511 0 0) (Nk511 : Fr n0 lk511) (ek511 : Tk511.heap = h0) (hm : mq.toInt = (mm : Int)) (hmB : mm ≤ 4294967296) (hn : nn.toInt = ((own_dg mm).length : Int)) (he : ee.toInt = (eN : Int)) (hle : (own_dg mm).length ≤ eN + 1 ∧ eN ≤ 2000) (hE : ∀ j, j < (own_dg mm).length → cl[eN - j]? = some (Int32.ofNat (48 + mm / 10 ^ j % 10))), Good p e below (fun o U' => ∃ v L, o = .returned v ∧ Q45 Z r0 p1 q2 cs sv ks zs cl vf pn h0 n0 v U'.heap L ∧ FrameEnd s o U' L R_23.cells R_23.slots) (Tk511.setTop (mkF m 511 (a_RIJsIJsI3 r0 p1 q2 ng mq nn ee 1) [])) := by
    intro ng mq nn ee mm eN Tk511 lk511 Xk511 Nk511 ek511 hm hmB hn he hle hE
    show Good p e below _ (Tk511.setTop (mkF m 511 (a_RIJsIJsI3 r0 p1 q2 ng mq nn ee 1) []))
    refine Good.back (fun _ k => XS.iload Xk511.here hx rfl (hb hby k45_32.2.2.2) rfl k) ?_
    show Good p e below _ (Tk511.setTop (mkF m 513 (a_RIJsIJsI3 r0 p1 q2 ng mq nn ee 1) [.int 1]))
    obtain ⟨fs1, hr1, hrun1, hended1, hW1, hsame1⟩ := Xk511.leave (v := some (.int 1)) (fun h => by rw [Bd.returns] at h; cases h)
    refine Good.done (retN Xk511 hx (t := .boolean) Bd.returns (by simp) (hb hby k45_33) hr1) hrun1 hended1 ⟨_, _, rfl, ?_, ⟨_, rfl⟩, hW1, hsame1.mono (by decide) (by decide)⟩
    show Q45 Z r0 p1 q2 cs sv ks zs cl vf pn h0 n0 _ Tk511.heap _
    rw [ek511]
    exact ⟨rfl, Nk511, rfl⟩
  have key465 : ∀ (ng : Int32) (mq : Int64) (nn : Int32) (ee : Int32) (mm : Nat) (eN : Nat) (Tk465 : State) (lk465 : List Loc) (Xk465 : Stand p l e R_23 s m #[(.ref r0), (.int p1), (.long q2)] below meth c Tk465 lk465 0 0) (Nk465 : Fr n0 lk465) (ek465 : Tk465.heap = h0) (hm : mq.toInt = (mm : Int)) (hmB : mm ≤ 4294967296) (hn : nn.toInt = ((own_dg mm).length : Int)) (he : ee.toInt = (eN : Int)) (hle : (own_dg mm).length ≤ eN + 1 ∧ eN ≤ 2000) (hE : ∀ j, j < (own_dg mm).length → cl[eN - j]? = some (Int32.ofNat (48 + mm / 10 ^ j % 10))), Good p e below (fun o U' => ∃ v L, o = .returned v ∧ Q45 Z r0 p1 q2 cs sv ks zs cl vf pn h0 n0 v U'.heap L ∧ FrameEnd s o U' L R_23.cells R_23.slots) (Tk465.setTop (mkF m 465 (a_RIJsIJsI3 r0 p1 q2 ng mq nn ee 1) [])) := by
    intro ng mq nn ee mm eN Tk465 lk465 Xk465 Nk465 ek465 hm hmB hn he hle hE
    show Good p e below _ (Tk465.setTop (mkF m 465 (a_RIJsIJsI3 r0 p1 q2 ng mq nn ee 1) []))
    refine Good.back (fun _ k => XS.iload Xk465.here hx rfl (hb hby k45_30.1.1.1) rfl k) ?_
    refine Good.back (fun _ k => XS.ifNo Xk465.here hx rfl (hb hby k45_30.1.1.2) rfl ((if0 _ _).trans (feq (by decide : ¬ ((1 : Int32) = (0 : Int32)))).1) k) ?_
    refine Good.back (fun _ k => XS.iload Xk465.here hx rfl (hb hby k45_30.1.2.1) rfl k) ?_
    refine Good.back (fun _ k => XS.bipush Xk465.here hx rfl (hb hby k45_30.1.2.2) k) ?_
    by_cases hc474_2 : nn < (10 : Int32)
    · refine Good.back (fun _ k => XS.icmpYes Xk465.here hx rfl (pc0 := 474) (pc' := 504) rfl (hb hby k45_30.2.1.1) rfl (tlt hc474_2).1 (by decide) (by decide) k) ?_
      refine Good.back (fun _ k => XS.iconst Xk465.here hx rfl (hb hby k45_32.2.1.1) k) ?_
      show Good p e below _ (Tk465.setTop (mkF m 505 (a_RIJsIJsI3 r0 p1 q2 ng mq nn ee 1) [.int 1]))
      refine Good.back (fun _ k => XS.goto Xk465.here hx rfl (pc0 := 505) (pc' := 509) rfl (hb hby k45_32.2.1.2) (by decide) (by decide) k) ?_
      refine Good.back (fun _ k => XS.istore Xk465.here hx rfl (hb hby k45_32.2.2.1) rfl (l' := (a_RIJsIJsI3 r0 p1 q2 ng mq nn ee 1)) rfl k) ?_
      show Good p e below _ (Tk465.setTop (mkF m 511 (a_RIJsIJsI3 r0 p1 q2 ng mq nn ee 1) []))
      exact key511 ng mq nn ee mm eN _ _ Xk465 Nk465 ek465 (hm) (hmB) (hn) (he) (hle) (hE)
    · refine Good.back (fun _ k => XS.icmpNo Xk465.here hx rfl (hb hby k45_30.2.1.1) rfl (flt hc474_2).1 k) ?_
      refine Good.back (fun _ k => XS.aloadN Xk465.here hx rfl (hb hby k45_30.2.1.2) rfl rfl k) ?_
      show Good p e below _ (Tk465.setTop (mkF m 478 (a_RIJsIJsI3 r0 p1 q2 ng mq nn ee 1) [.ref r0]))
      refine Good.back (fun _ k => XS.iload Xk465.here hx rfl (hb hby k45_30.2.2.1) rfl k) ?_
      refine Good.back (fun _ k => XS.bipush Xk465.here hx rfl (hb hby k45_30.2.2.2) k) ?_
      refine Good.back (fun _ k => XS.isub Xk465.here hx rfl (hb hby k45_31.1.1.1) rfl k) ?_
      have lj : 9 < (own_dg mm).length := by have q := hc474_2; rw [Int32.lt_iff_toInt_lt, hn, show (10 : Int32).toInt = 10 from rfl] at q; omega
      obtain ⟨cq3, kq3, q3a, q3b, q3c⟩ := isOf hZ ek465 Es
      obtain ⟨_, _, ⟨T3, L3, k3, n3⟩, -, X3, ⟨Lc3, hQ3, l3, y3, z3⟩, st3⟩ := Xk465.virtualBack hx (y := y_46) (z := y_46) hown (mvT hZ (wd hw 246 rfl)) (mvT hZ (wd hw 247 rfl)) (notFace_of_selects (args := #[]) (mvT hZ (wd hw 249 rfl))) (mvT hZ (wd hw 249 rfl)) (mvT hZ (wd hw 248 rfl)) (by decide) (backOf (W := 0) (rm46 l Z a0 hw [] r0 (ee - (9 : Int32)) cs sv ks zs cl vf (eN - 9) (Int32.ofNat (48 + (mm / 1000000000) % 10)) h0 n0 Z0 S_cs (hcs) Es Fsv Fsc Vs (hzs) S_f (hfm) (own_subI he (show (9 : Int32).toInt = ((9 : Nat) : Int) from rfl) (by omega) (by omega)) (hE 9 lj) (own_sgn _)) hZ (wd hw 250 rfl) (wd hw 30 rfl) (by decide) (by decide)) q3a q3c (g := (mkF m 483 (a_RIJsIJsI3 r0 p1 q2 ng mq nn ee 1) [.int (ee - (9 : Int32)), .ref r0])) rfl (by rw [hml]; rfl) (Steps.refl _) (argsL := [(.int (ee - (9 : Int32)))]) (rest := []) (lenOf own_pd34 rfl) rfl (by show 2 * 0 + _ ≤ _; exact Nat.le_of_eq rfl) (hb hby k45_31.1.1.2) (fun _ _ => ⟨rfl, ek465, (by decide : 0 + 0 ≤ _), (by decide : 0 + 0 ≤ _)⟩)
      dsimp only [Pt.U, Pt.locs, Pt.cells, Pt.slots] at X3 l3 y3 z3 st3 hQ3
      subst l3 y3 z3
      obtain ⟨rfl, N3q, eh3⟩ := hQ3
      have N3 := Fr.app Nk465 N3q
      refine Good.back (fun _ k => st3.trans k) ?_
      refine Good.back (fun _ k => XS.bipush X3.here hx rfl (hb hby k45_31.1.2.1) k) ?_
      refine Good.back (fun _ k => XS.lload X3.here hx rfl (hb hby k45_31.1.2.2) rfl k) ?_
      refine Good.back (X3.ldc2Long hx hown (mvT hZ (wd hw 10 rfl)) (g := (mkF m 490 (a_RIJsIJsI3 r0 p1 q2 ng mq nn ee 1) [.long mq, .int 48, .int (Int32.ofNat (48 + (mm / 1000000000) % 10))])) rfl (hb hby k45_31.2.1.1)) ?_
      refine Good.back (fun _ k => XS.ldiv X3.here hx rfl (hb hby k45_31.2.1.2) rfl (by decide) k) ?_
      refine Good.back (X3.ldc2Long hx hown (mvT hZ (wd hw 241 rfl)) (g := (mkF m 494 (a_RIJsIJsI3 r0 p1 q2 ng mq nn ee 1) [.long (mq / (1000000000 : Int64)), .int 48, .int (Int32.ofNat (48 + (mm / 1000000000) % 10))])) rfl (hb hby k45_31.2.2.1)) ?_
      refine Good.back (fun _ k => XS.lrem X3.here hx rfl (hb hby k45_31.2.2.2) rfl (by decide) k) ?_
      refine Good.back (fun _ k => XS.l2i X3.here hx rfl (hb hby k45_32.1.1.1) rfl k) ?_
      refine Good.back (fun _ k => XS.iadd X3.here hx rfl (hb hby k45_32.1.1.2) rfl k) ?_
      refine Good.back (fun _ k => XS.i2c X3.here hx rfl (hb hby k45_32.1.2.1) rfl k) ?_
      show Good p e below _ (T3.setTop (mkF m 501 (a_RIJsIJsI3 r0 p1 q2 ng mq nn ee 1) [.int (((48 : Int32) + (((mq / (1000000000 : Int64)) - ((mq / (1000000000 : Int64)) / (10 : Int64)) * (10 : Int64)).toInt32)).toUInt32.toUInt16.toUInt32.toInt32), .int (Int32.ofNat (48 + (mm / 1000000000) % 10))]))
      rw [show ((((48 : Int32) + (((mq / (1000000000 : Int64)) - ((mq / (1000000000 : Int64)) / (10 : Int64)) * (10 : Int64)).toInt32)).toUInt32.toUInt16.toUInt32.toInt32) : Int32) = (Int32.ofNat (48 + (mm / 1000000000) % 10)) from own_chk (own_chkD (k := 1000000000) hm rfl (by decide))]
      show Good p e below _ (T3.setTop (mkF m 501 (a_RIJsIJsI3 r0 p1 q2 ng mq nn ee 1) [.int (Int32.ofNat (48 + (mm / 1000000000) % 10)), .int (Int32.ofNat (48 + (mm / 1000000000) % 10))]))
      refine Good.back (fun _ k => XS.icmpNo X3.here hx rfl (hb hby k45_32.1.2.2) rfl (teq (rfl : (Int32.ofNat (48 + (mm / 1000000000) % 10)) = (Int32.ofNat (48 + (mm / 1000000000) % 10)))).2 k) ?_
      refine Good.back (fun _ k => XS.iconst X3.here hx rfl (hb hby k45_32.2.1.1) k) ?_
      refine Good.back (fun _ k => XS.goto X3.here hx rfl (pc0 := 505) (pc' := 509) rfl (hb hby k45_32.2.1.2) (by decide) (by decide) k) ?_
      refine Good.back (fun _ k => XS.istore X3.here hx rfl (hb hby k45_32.2.2.1) rfl (l' := (a_RIJsIJsI3 r0 p1 q2 ng mq nn ee 1)) rfl k) ?_
      show Good p e below _ (T3.setTop (mkF m 511 (a_RIJsIJsI3 r0 p1 q2 ng mq nn ee 1) []))
      exact key511 ng mq nn ee mm eN _ _ X3 N3 eh3 (hm) (hmB) (hn) (he) (hle) (hE)
  have key419 : ∀ (ng : Int32) (mq : Int64) (nn : Int32) (ee : Int32) (mm : Nat) (eN : Nat) (Tk419 : State) (lk419 : List Loc) (Xk419 : Stand p l e R_23 s m #[(.ref r0), (.int p1), (.long q2)] below meth c Tk419 lk419 0 0) (Nk419 : Fr n0 lk419) (ek419 : Tk419.heap = h0) (hm : mq.toInt = (mm : Int)) (hmB : mm ≤ 4294967296) (hn : nn.toInt = ((own_dg mm).length : Int)) (he : ee.toInt = (eN : Int)) (hle : (own_dg mm).length ≤ eN + 1 ∧ eN ≤ 2000) (hE : ∀ j, j < (own_dg mm).length → cl[eN - j]? = some (Int32.ofNat (48 + mm / 10 ^ j % 10))), Good p e below (fun o U' => ∃ v L, o = .returned v ∧ Q45 Z r0 p1 q2 cs sv ks zs cl vf pn h0 n0 v U'.heap L ∧ FrameEnd s o U' L R_23.cells R_23.slots) (Tk419.setTop (mkF m 419 (a_RIJsIJsI3 r0 p1 q2 ng mq nn ee 1) [])) := by
    intro ng mq nn ee mm eN Tk419 lk419 Xk419 Nk419 ek419 hm hmB hn he hle hE
    show Good p e below _ (Tk419.setTop (mkF m 419 (a_RIJsIJsI3 r0 p1 q2 ng mq nn ee 1) []))
    refine Good.back (fun _ k => XS.iload Xk419.here hx rfl (hb hby k45_27.1.1.2) rfl k) ?_
    refine Good.back (fun _ k => XS.ifNo Xk419.here hx rfl (hb hby k45_27.1.2.1) rfl ((if0 _ _).trans (feq (by decide : ¬ ((1 : Int32) = (0 : Int32)))).1) k) ?_
    refine Good.back (fun _ k => XS.iload Xk419.here hx rfl (hb hby k45_27.1.2.2) rfl k) ?_
    refine Good.back (fun _ k => XS.bipush Xk419.here hx rfl (hb hby k45_27.2.1.1) k) ?_
    by_cases hc428_4 : nn < (9 : Int32)
    · refine Good.back (fun _ k => XS.icmpYes Xk419.here hx rfl (pc0 := 428) (pc' := 458) rfl (hb hby k45_27.2.1.2) rfl (tlt hc428_4).1 (by decide) (by decide) k) ?_
      refine Good.back (fun _ k => XS.iconst Xk419.here hx rfl (hb hby k45_29.2.1.2) k) ?_
      show Good p e below _ (Tk419.setTop (mkF m 459 (a_RIJsIJsI3 r0 p1 q2 ng mq nn ee 1) [.int 1]))
      refine Good.back (fun _ k => XS.goto Xk419.here hx rfl (pc0 := 459) (pc' := 463) rfl (hb hby k45_29.2.2.1) (by decide) (by decide) k) ?_
      refine Good.back (fun _ k => XS.istore Xk419.here hx rfl (hb hby k45_29.2.2.2) rfl (l' := (a_RIJsIJsI3 r0 p1 q2 ng mq nn ee 1)) rfl k) ?_
      show Good p e below _ (Tk419.setTop (mkF m 465 (a_RIJsIJsI3 r0 p1 q2 ng mq nn ee 1) []))
      exact key465 ng mq nn ee mm eN _ _ Xk419 Nk419 ek419 (hm) (hmB) (hn) (he) (hle) (hE)
    · refine Good.back (fun _ k => XS.icmpNo Xk419.here hx rfl (hb hby k45_27.2.1.2) rfl (flt hc428_4).1 k) ?_
      refine Good.back (fun _ k => XS.aloadN Xk419.here hx rfl (hb hby k45_27.2.2.1) rfl rfl k) ?_
      show Good p e below _ (Tk419.setTop (mkF m 432 (a_RIJsIJsI3 r0 p1 q2 ng mq nn ee 1) [.ref r0]))
      refine Good.back (fun _ k => XS.iload Xk419.here hx rfl (hb hby k45_27.2.2.2) rfl k) ?_
      refine Good.back (fun _ k => XS.bipush Xk419.here hx rfl (hb hby k45_28.1.1.1) k) ?_
      refine Good.back (fun _ k => XS.isub Xk419.here hx rfl (hb hby k45_28.1.1.2) rfl k) ?_
      have lj : 8 < (own_dg mm).length := by have q := hc428_4; rw [Int32.lt_iff_toInt_lt, hn, show (9 : Int32).toInt = 9 from rfl] at q; omega
      obtain ⟨cq5, kq5, q5a, q5b, q5c⟩ := isOf hZ ek419 Es
      obtain ⟨_, _, ⟨T5, L5, k5, n5⟩, -, X5, ⟨Lc5, hQ5, l5, y5, z5⟩, st5⟩ := Xk419.virtualBack hx (y := y_46) (z := y_46) hown (mvT hZ (wd hw 246 rfl)) (mvT hZ (wd hw 247 rfl)) (notFace_of_selects (args := #[]) (mvT hZ (wd hw 249 rfl))) (mvT hZ (wd hw 249 rfl)) (mvT hZ (wd hw 248 rfl)) (by decide) (backOf (W := 0) (rm46 l Z a0 hw [] r0 (ee - (8 : Int32)) cs sv ks zs cl vf (eN - 8) (Int32.ofNat (48 + (mm / 100000000) % 10)) h0 n0 Z0 S_cs (hcs) Es Fsv Fsc Vs (hzs) S_f (hfm) (own_subI he (show (8 : Int32).toInt = ((8 : Nat) : Int) from rfl) (by omega) (by omega)) (hE 8 lj) (own_sgn _)) hZ (wd hw 250 rfl) (wd hw 30 rfl) (by decide) (by decide)) q5a q5c (g := (mkF m 437 (a_RIJsIJsI3 r0 p1 q2 ng mq nn ee 1) [.int (ee - (8 : Int32)), .ref r0])) rfl (by rw [hml]; rfl) (Steps.refl _) (argsL := [(.int (ee - (8 : Int32)))]) (rest := []) (lenOf own_pd34 rfl) rfl (by show 2 * 0 + _ ≤ _; exact Nat.le_of_eq rfl) (hb hby k45_28.1.2.1) (fun _ _ => ⟨rfl, ek419, (by decide : 0 + 0 ≤ _), (by decide : 0 + 0 ≤ _)⟩)
      dsimp only [Pt.U, Pt.locs, Pt.cells, Pt.slots] at X5 l5 y5 z5 st5 hQ5
      subst l5 y5 z5
      obtain ⟨rfl, N5q, eh5⟩ := hQ5
      have N5 := Fr.app Nk419 N5q
      refine Good.back (fun _ k => st5.trans k) ?_
      refine Good.back (fun _ k => XS.bipush X5.here hx rfl (hb hby k45_28.1.2.2) k) ?_
      refine Good.back (fun _ k => XS.lload X5.here hx rfl (hb hby k45_28.2.1.1) rfl k) ?_
      refine Good.back (X5.ldc2Long hx hown (mvT hZ (wd hw 280 rfl)) (g := (mkF m 444 (a_RIJsIJsI3 r0 p1 q2 ng mq nn ee 1) [.long mq, .int 48, .int (Int32.ofNat (48 + (mm / 100000000) % 10))])) rfl (hb hby k45_28.2.1.2)) ?_
      refine Good.back (fun _ k => XS.ldiv X5.here hx rfl (hb hby k45_28.2.2.1) rfl (by decide) k) ?_
      refine Good.back (X5.ldc2Long hx hown (mvT hZ (wd hw 241 rfl)) (g := (mkF m 448 (a_RIJsIJsI3 r0 p1 q2 ng mq nn ee 1) [.long (mq / (100000000 : Int64)), .int 48, .int (Int32.ofNat (48 + (mm / 100000000) % 10))])) rfl (hb hby k45_28.2.2.2)) ?_
      refine Good.back (fun _ k => XS.lrem X5.here hx rfl (hb hby k45_29.1.1.1) rfl (by decide) k) ?_
      refine Good.back (fun _ k => XS.l2i X5.here hx rfl (hb hby k45_29.1.1.2) rfl k) ?_
      refine Good.back (fun _ k => XS.iadd X5.here hx rfl (hb hby k45_29.1.2.1) rfl k) ?_
      refine Good.back (fun _ k => XS.i2c X5.here hx rfl (hb hby k45_29.1.2.2) rfl k) ?_
      show Good p e below _ (T5.setTop (mkF m 455 (a_RIJsIJsI3 r0 p1 q2 ng mq nn ee 1) [.int (((48 : Int32) + (((mq / (100000000 : Int64)) - ((mq / (100000000 : Int64)) / (10 : Int64)) * (10 : Int64)).toInt32)).toUInt32.toUInt16.toUInt32.toInt32), .int (Int32.ofNat (48 + (mm / 100000000) % 10))]))
      rw [show ((((48 : Int32) + (((mq / (100000000 : Int64)) - ((mq / (100000000 : Int64)) / (10 : Int64)) * (10 : Int64)).toInt32)).toUInt32.toUInt16.toUInt32.toInt32) : Int32) = (Int32.ofNat (48 + (mm / 100000000) % 10)) from own_chk (own_chkD (k := 100000000) hm rfl (by decide))]
      show Good p e below _ (T5.setTop (mkF m 455 (a_RIJsIJsI3 r0 p1 q2 ng mq nn ee 1) [.int (Int32.ofNat (48 + (mm / 100000000) % 10)), .int (Int32.ofNat (48 + (mm / 100000000) % 10))]))
      refine Good.back (fun _ k => XS.icmpNo X5.here hx rfl (hb hby k45_29.2.1.1) rfl (teq (rfl : (Int32.ofNat (48 + (mm / 100000000) % 10)) = (Int32.ofNat (48 + (mm / 100000000) % 10)))).2 k) ?_
      refine Good.back (fun _ k => XS.iconst X5.here hx rfl (hb hby k45_29.2.1.2) k) ?_
      refine Good.back (fun _ k => XS.goto X5.here hx rfl (pc0 := 459) (pc' := 463) rfl (hb hby k45_29.2.2.1) (by decide) (by decide) k) ?_
      refine Good.back (fun _ k => XS.istore X5.here hx rfl (hb hby k45_29.2.2.2) rfl (l' := (a_RIJsIJsI3 r0 p1 q2 ng mq nn ee 1)) rfl k) ?_
      show Good p e below _ (T5.setTop (mkF m 465 (a_RIJsIJsI3 r0 p1 q2 ng mq nn ee 1) []))
      exact key465 ng mq nn ee mm eN _ _ X5 N5 eh5 (hm) (hmB) (hn) (he) (hle) (hE)
  have key373 : ∀ (ng : Int32) (mq : Int64) (nn : Int32) (ee : Int32) (mm : Nat) (eN : Nat) (Tk373 : State) (lk373 : List Loc) (Xk373 : Stand p l e R_23 s m #[(.ref r0), (.int p1), (.long q2)] below meth c Tk373 lk373 0 0) (Nk373 : Fr n0 lk373) (ek373 : Tk373.heap = h0) (hm : mq.toInt = (mm : Int)) (hmB : mm ≤ 4294967296) (hn : nn.toInt = ((own_dg mm).length : Int)) (he : ee.toInt = (eN : Int)) (hle : (own_dg mm).length ≤ eN + 1 ∧ eN ≤ 2000) (hE : ∀ j, j < (own_dg mm).length → cl[eN - j]? = some (Int32.ofNat (48 + mm / 10 ^ j % 10))), Good p e below (fun o U' => ∃ v L, o = .returned v ∧ Q45 Z r0 p1 q2 cs sv ks zs cl vf pn h0 n0 v U'.heap L ∧ FrameEnd s o U' L R_23.cells R_23.slots) (Tk373.setTop (mkF m 373 (a_RIJsIJsI3 r0 p1 q2 ng mq nn ee 1) [])) := by
    intro ng mq nn ee mm eN Tk373 lk373 Xk373 Nk373 ek373 hm hmB hn he hle hE
    show Good p e below _ (Tk373.setTop (mkF m 373 (a_RIJsIJsI3 r0 p1 q2 ng mq nn ee 1) []))
    refine Good.back (fun _ k => XS.iload Xk373.here hx rfl (hb hby k45_24.1.2.1) rfl k) ?_
    refine Good.back (fun _ k => XS.ifNo Xk373.here hx rfl (hb hby k45_24.1.2.2) rfl ((if0 _ _).trans (feq (by decide : ¬ ((1 : Int32) = (0 : Int32)))).1) k) ?_
    refine Good.back (fun _ k => XS.iload Xk373.here hx rfl (hb hby k45_24.2.1.1) rfl k) ?_
    refine Good.back (fun _ k => XS.bipush Xk373.here hx rfl (hb hby k45_24.2.1.2) k) ?_
    by_cases hc382_6 : nn < (8 : Int32)
    · refine Good.back (fun _ k => XS.icmpYes Xk373.here hx rfl (pc0 := 382) (pc' := 412) rfl (hb hby k45_24.2.2.1) rfl (tlt hc382_6).1 (by decide) (by decide) k) ?_
      refine Good.back (fun _ k => XS.iconst Xk373.here hx rfl (hb hby k45_26.2.2.1) k) ?_
      show Good p e below _ (Tk373.setTop (mkF m 413 (a_RIJsIJsI3 r0 p1 q2 ng mq nn ee 1) [.int 1]))
      refine Good.back (fun _ k => XS.goto Xk373.here hx rfl (pc0 := 413) (pc' := 417) rfl (hb hby k45_26.2.2.2) (by decide) (by decide) k) ?_
      refine Good.back (fun _ k => XS.istore Xk373.here hx rfl (hb hby k45_27.1.1.1) rfl (l' := (a_RIJsIJsI3 r0 p1 q2 ng mq nn ee 1)) rfl k) ?_
      show Good p e below _ (Tk373.setTop (mkF m 419 (a_RIJsIJsI3 r0 p1 q2 ng mq nn ee 1) []))
      exact key419 ng mq nn ee mm eN _ _ Xk373 Nk373 ek373 (hm) (hmB) (hn) (he) (hle) (hE)
    · refine Good.back (fun _ k => XS.icmpNo Xk373.here hx rfl (hb hby k45_24.2.2.1) rfl (flt hc382_6).1 k) ?_
      refine Good.back (fun _ k => XS.aloadN Xk373.here hx rfl (hb hby k45_24.2.2.2) rfl rfl k) ?_
      show Good p e below _ (Tk373.setTop (mkF m 386 (a_RIJsIJsI3 r0 p1 q2 ng mq nn ee 1) [.ref r0]))
      refine Good.back (fun _ k => XS.iload Xk373.here hx rfl (hb hby k45_25.1.1.1) rfl k) ?_
      refine Good.back (fun _ k => XS.bipush Xk373.here hx rfl (hb hby k45_25.1.1.2) k) ?_
      refine Good.back (fun _ k => XS.isub Xk373.here hx rfl (hb hby k45_25.1.2.1) rfl k) ?_
      have lj : 7 < (own_dg mm).length := by have q := hc382_6; rw [Int32.lt_iff_toInt_lt, hn, show (8 : Int32).toInt = 8 from rfl] at q; omega
      obtain ⟨cq7, kq7, q7a, q7b, q7c⟩ := isOf hZ ek373 Es
      obtain ⟨_, _, ⟨T7, L7, k7, n7⟩, -, X7, ⟨Lc7, hQ7, l7, y7, z7⟩, st7⟩ := Xk373.virtualBack hx (y := y_46) (z := y_46) hown (mvT hZ (wd hw 246 rfl)) (mvT hZ (wd hw 247 rfl)) (notFace_of_selects (args := #[]) (mvT hZ (wd hw 249 rfl))) (mvT hZ (wd hw 249 rfl)) (mvT hZ (wd hw 248 rfl)) (by decide) (backOf (W := 0) (rm46 l Z a0 hw [] r0 (ee - (7 : Int32)) cs sv ks zs cl vf (eN - 7) (Int32.ofNat (48 + (mm / 10000000) % 10)) h0 n0 Z0 S_cs (hcs) Es Fsv Fsc Vs (hzs) S_f (hfm) (own_subI he (show (7 : Int32).toInt = ((7 : Nat) : Int) from rfl) (by omega) (by omega)) (hE 7 lj) (own_sgn _)) hZ (wd hw 250 rfl) (wd hw 30 rfl) (by decide) (by decide)) q7a q7c (g := (mkF m 391 (a_RIJsIJsI3 r0 p1 q2 ng mq nn ee 1) [.int (ee - (7 : Int32)), .ref r0])) rfl (by rw [hml]; rfl) (Steps.refl _) (argsL := [(.int (ee - (7 : Int32)))]) (rest := []) (lenOf own_pd34 rfl) rfl (by show 2 * 0 + _ ≤ _; exact Nat.le_of_eq rfl) (hb hby k45_25.1.2.2) (fun _ _ => ⟨rfl, ek373, (by decide : 0 + 0 ≤ _), (by decide : 0 + 0 ≤ _)⟩)
      dsimp only [Pt.U, Pt.locs, Pt.cells, Pt.slots] at X7 l7 y7 z7 st7 hQ7
      subst l7 y7 z7
      obtain ⟨rfl, N7q, eh7⟩ := hQ7
      have N7 := Fr.app Nk373 N7q
      refine Good.back (fun _ k => st7.trans k) ?_
      refine Good.back (fun _ k => XS.bipush X7.here hx rfl (hb hby k45_25.2.1.1) k) ?_
      refine Good.back (fun _ k => XS.lload X7.here hx rfl (hb hby k45_25.2.1.2) rfl k) ?_
      refine Good.back (X7.ldc2Long hx hown (mvT hZ (wd hw 279 rfl)) (g := (mkF m 398 (a_RIJsIJsI3 r0 p1 q2 ng mq nn ee 1) [.long mq, .int 48, .int (Int32.ofNat (48 + (mm / 10000000) % 10))])) rfl (hb hby k45_25.2.2.1)) ?_
      refine Good.back (fun _ k => XS.ldiv X7.here hx rfl (hb hby k45_25.2.2.2) rfl (by decide) k) ?_
      refine Good.back (X7.ldc2Long hx hown (mvT hZ (wd hw 241 rfl)) (g := (mkF m 402 (a_RIJsIJsI3 r0 p1 q2 ng mq nn ee 1) [.long (mq / (10000000 : Int64)), .int 48, .int (Int32.ofNat (48 + (mm / 10000000) % 10))])) rfl (hb hby k45_26.1.1.1)) ?_
      refine Good.back (fun _ k => XS.lrem X7.here hx rfl (hb hby k45_26.1.1.2) rfl (by decide) k) ?_
      refine Good.back (fun _ k => XS.l2i X7.here hx rfl (hb hby k45_26.1.2.1) rfl k) ?_
      refine Good.back (fun _ k => XS.iadd X7.here hx rfl (hb hby k45_26.1.2.2) rfl k) ?_
      refine Good.back (fun _ k => XS.i2c X7.here hx rfl (hb hby k45_26.2.1.1) rfl k) ?_
      show Good p e below _ (T7.setTop (mkF m 409 (a_RIJsIJsI3 r0 p1 q2 ng mq nn ee 1) [.int (((48 : Int32) + (((mq / (10000000 : Int64)) - ((mq / (10000000 : Int64)) / (10 : Int64)) * (10 : Int64)).toInt32)).toUInt32.toUInt16.toUInt32.toInt32), .int (Int32.ofNat (48 + (mm / 10000000) % 10))]))
      rw [show ((((48 : Int32) + (((mq / (10000000 : Int64)) - ((mq / (10000000 : Int64)) / (10 : Int64)) * (10 : Int64)).toInt32)).toUInt32.toUInt16.toUInt32.toInt32) : Int32) = (Int32.ofNat (48 + (mm / 10000000) % 10)) from own_chk (own_chkD (k := 10000000) hm rfl (by decide))]
      show Good p e below _ (T7.setTop (mkF m 409 (a_RIJsIJsI3 r0 p1 q2 ng mq nn ee 1) [.int (Int32.ofNat (48 + (mm / 10000000) % 10)), .int (Int32.ofNat (48 + (mm / 10000000) % 10))]))
      refine Good.back (fun _ k => XS.icmpNo X7.here hx rfl (hb hby k45_26.2.1.2) rfl (teq (rfl : (Int32.ofNat (48 + (mm / 10000000) % 10)) = (Int32.ofNat (48 + (mm / 10000000) % 10)))).2 k) ?_
      refine Good.back (fun _ k => XS.iconst X7.here hx rfl (hb hby k45_26.2.2.1) k) ?_
      refine Good.back (fun _ k => XS.goto X7.here hx rfl (pc0 := 413) (pc' := 417) rfl (hb hby k45_26.2.2.2) (by decide) (by decide) k) ?_
      refine Good.back (fun _ k => XS.istore X7.here hx rfl (hb hby k45_27.1.1.1) rfl (l' := (a_RIJsIJsI3 r0 p1 q2 ng mq nn ee 1)) rfl k) ?_
      show Good p e below _ (T7.setTop (mkF m 419 (a_RIJsIJsI3 r0 p1 q2 ng mq nn ee 1) []))
      exact key419 ng mq nn ee mm eN _ _ X7 N7 eh7 (hm) (hmB) (hn) (he) (hle) (hE)
  have key327 : ∀ (ng : Int32) (mq : Int64) (nn : Int32) (ee : Int32) (mm : Nat) (eN : Nat) (Tk327 : State) (lk327 : List Loc) (Xk327 : Stand p l e R_23 s m #[(.ref r0), (.int p1), (.long q2)] below meth c Tk327 lk327 0 0) (Nk327 : Fr n0 lk327) (ek327 : Tk327.heap = h0) (hm : mq.toInt = (mm : Int)) (hmB : mm ≤ 4294967296) (hn : nn.toInt = ((own_dg mm).length : Int)) (he : ee.toInt = (eN : Int)) (hle : (own_dg mm).length ≤ eN + 1 ∧ eN ≤ 2000) (hE : ∀ j, j < (own_dg mm).length → cl[eN - j]? = some (Int32.ofNat (48 + mm / 10 ^ j % 10))), Good p e below (fun o U' => ∃ v L, o = .returned v ∧ Q45 Z r0 p1 q2 cs sv ks zs cl vf pn h0 n0 v U'.heap L ∧ FrameEnd s o U' L R_23.cells R_23.slots) (Tk327.setTop (mkF m 327 (a_RIJsIJsI3 r0 p1 q2 ng mq nn ee 1) [])) := by
    intro ng mq nn ee mm eN Tk327 lk327 Xk327 Nk327 ek327 hm hmB hn he hle hE
    show Good p e below _ (Tk327.setTop (mkF m 327 (a_RIJsIJsI3 r0 p1 q2 ng mq nn ee 1) []))
    refine Good.back (fun _ k => XS.iload Xk327.here hx rfl (hb hby k45_21.1.2.2) rfl k) ?_
    refine Good.back (fun _ k => XS.ifNo Xk327.here hx rfl (hb hby k45_21.2.1.1) rfl ((if0 _ _).trans (feq (by decide : ¬ ((1 : Int32) = (0 : Int32)))).1) k) ?_
    refine Good.back (fun _ k => XS.iload Xk327.here hx rfl (hb hby k45_21.2.1.2) rfl k) ?_
    refine Good.back (fun _ k => XS.bipush Xk327.here hx rfl (hb hby k45_21.2.2.1) k) ?_
    by_cases hc336_8 : nn < (7 : Int32)
    · refine Good.back (fun _ k => XS.icmpYes Xk327.here hx rfl (pc0 := 336) (pc' := 366) rfl (hb hby k45_21.2.2.2) rfl (tlt hc336_8).1 (by decide) (by decide) k) ?_
      refine Good.back (fun _ k => XS.iconst Xk327.here hx rfl (hb hby k45_23.2.2.2) k) ?_
      show Good p e below _ (Tk327.setTop (mkF m 367 (a_RIJsIJsI3 r0 p1 q2 ng mq nn ee 1) [.int 1]))
      refine Good.back (fun _ k => XS.goto Xk327.here hx rfl (pc0 := 367) (pc' := 371) rfl (hb hby k45_24.1.1.1) (by decide) (by decide) k) ?_
      refine Good.back (fun _ k => XS.istore Xk327.here hx rfl (hb hby k45_24.1.1.2) rfl (l' := (a_RIJsIJsI3 r0 p1 q2 ng mq nn ee 1)) rfl k) ?_
      show Good p e below _ (Tk327.setTop (mkF m 373 (a_RIJsIJsI3 r0 p1 q2 ng mq nn ee 1) []))
      exact key373 ng mq nn ee mm eN _ _ Xk327 Nk327 ek327 (hm) (hmB) (hn) (he) (hle) (hE)
    · refine Good.back (fun _ k => XS.icmpNo Xk327.here hx rfl (hb hby k45_21.2.2.2) rfl (flt hc336_8).1 k) ?_
      refine Good.back (fun _ k => XS.aloadN Xk327.here hx rfl (hb hby k45_22.1.1.1) rfl rfl k) ?_
      show Good p e below _ (Tk327.setTop (mkF m 340 (a_RIJsIJsI3 r0 p1 q2 ng mq nn ee 1) [.ref r0]))
      refine Good.back (fun _ k => XS.iload Xk327.here hx rfl (hb hby k45_22.1.1.2) rfl k) ?_
      refine Good.back (fun _ k => XS.bipush Xk327.here hx rfl (hb hby k45_22.1.2.1) k) ?_
      refine Good.back (fun _ k => XS.isub Xk327.here hx rfl (hb hby k45_22.1.2.2) rfl k) ?_
      have lj : 6 < (own_dg mm).length := by have q := hc336_8; rw [Int32.lt_iff_toInt_lt, hn, show (7 : Int32).toInt = 7 from rfl] at q; omega
      obtain ⟨cq9, kq9, q9a, q9b, q9c⟩ := isOf hZ ek327 Es
      obtain ⟨_, _, ⟨T9, L9, k9, n9⟩, -, X9, ⟨Lc9, hQ9, l9, y9, z9⟩, st9⟩ := Xk327.virtualBack hx (y := y_46) (z := y_46) hown (mvT hZ (wd hw 246 rfl)) (mvT hZ (wd hw 247 rfl)) (notFace_of_selects (args := #[]) (mvT hZ (wd hw 249 rfl))) (mvT hZ (wd hw 249 rfl)) (mvT hZ (wd hw 248 rfl)) (by decide) (backOf (W := 0) (rm46 l Z a0 hw [] r0 (ee - (6 : Int32)) cs sv ks zs cl vf (eN - 6) (Int32.ofNat (48 + (mm / 1000000) % 10)) h0 n0 Z0 S_cs (hcs) Es Fsv Fsc Vs (hzs) S_f (hfm) (own_subI he (show (6 : Int32).toInt = ((6 : Nat) : Int) from rfl) (by omega) (by omega)) (hE 6 lj) (own_sgn _)) hZ (wd hw 250 rfl) (wd hw 30 rfl) (by decide) (by decide)) q9a q9c (g := (mkF m 345 (a_RIJsIJsI3 r0 p1 q2 ng mq nn ee 1) [.int (ee - (6 : Int32)), .ref r0])) rfl (by rw [hml]; rfl) (Steps.refl _) (argsL := [(.int (ee - (6 : Int32)))]) (rest := []) (lenOf own_pd34 rfl) rfl (by show 2 * 0 + _ ≤ _; exact Nat.le_of_eq rfl) (hb hby k45_22.2.1.1) (fun _ _ => ⟨rfl, ek327, (by decide : 0 + 0 ≤ _), (by decide : 0 + 0 ≤ _)⟩)
      dsimp only [Pt.U, Pt.locs, Pt.cells, Pt.slots] at X9 l9 y9 z9 st9 hQ9
      subst l9 y9 z9
      obtain ⟨rfl, N9q, eh9⟩ := hQ9
      have N9 := Fr.app Nk327 N9q
      refine Good.back (fun _ k => st9.trans k) ?_
      refine Good.back (fun _ k => XS.bipush X9.here hx rfl (hb hby k45_22.2.1.2) k) ?_
      refine Good.back (fun _ k => XS.lload X9.here hx rfl (hb hby k45_22.2.2.1) rfl k) ?_
      refine Good.back (X9.ldc2Long hx hown (mvT hZ (wd hw 278 rfl)) (g := (mkF m 352 (a_RIJsIJsI3 r0 p1 q2 ng mq nn ee 1) [.long mq, .int 48, .int (Int32.ofNat (48 + (mm / 1000000) % 10))])) rfl (hb hby k45_22.2.2.2)) ?_
      refine Good.back (fun _ k => XS.ldiv X9.here hx rfl (hb hby k45_23.1.1.1) rfl (by decide) k) ?_
      refine Good.back (X9.ldc2Long hx hown (mvT hZ (wd hw 241 rfl)) (g := (mkF m 356 (a_RIJsIJsI3 r0 p1 q2 ng mq nn ee 1) [.long (mq / (1000000 : Int64)), .int 48, .int (Int32.ofNat (48 + (mm / 1000000) % 10))])) rfl (hb hby k45_23.1.1.2)) ?_
      refine Good.back (fun _ k => XS.lrem X9.here hx rfl (hb hby k45_23.1.2.1) rfl (by decide) k) ?_
      refine Good.back (fun _ k => XS.l2i X9.here hx rfl (hb hby k45_23.1.2.2) rfl k) ?_
      refine Good.back (fun _ k => XS.iadd X9.here hx rfl (hb hby k45_23.2.1.1) rfl k) ?_
      refine Good.back (fun _ k => XS.i2c X9.here hx rfl (hb hby k45_23.2.1.2) rfl k) ?_
      show Good p e below _ (T9.setTop (mkF m 363 (a_RIJsIJsI3 r0 p1 q2 ng mq nn ee 1) [.int (((48 : Int32) + (((mq / (1000000 : Int64)) - ((mq / (1000000 : Int64)) / (10 : Int64)) * (10 : Int64)).toInt32)).toUInt32.toUInt16.toUInt32.toInt32), .int (Int32.ofNat (48 + (mm / 1000000) % 10))]))
      rw [show ((((48 : Int32) + (((mq / (1000000 : Int64)) - ((mq / (1000000 : Int64)) / (10 : Int64)) * (10 : Int64)).toInt32)).toUInt32.toUInt16.toUInt32.toInt32) : Int32) = (Int32.ofNat (48 + (mm / 1000000) % 10)) from own_chk (own_chkD (k := 1000000) hm rfl (by decide))]
      show Good p e below _ (T9.setTop (mkF m 363 (a_RIJsIJsI3 r0 p1 q2 ng mq nn ee 1) [.int (Int32.ofNat (48 + (mm / 1000000) % 10)), .int (Int32.ofNat (48 + (mm / 1000000) % 10))]))
      refine Good.back (fun _ k => XS.icmpNo X9.here hx rfl (hb hby k45_23.2.2.1) rfl (teq (rfl : (Int32.ofNat (48 + (mm / 1000000) % 10)) = (Int32.ofNat (48 + (mm / 1000000) % 10)))).2 k) ?_
      refine Good.back (fun _ k => XS.iconst X9.here hx rfl (hb hby k45_23.2.2.2) k) ?_
      refine Good.back (fun _ k => XS.goto X9.here hx rfl (pc0 := 367) (pc' := 371) rfl (hb hby k45_24.1.1.1) (by decide) (by decide) k) ?_
      refine Good.back (fun _ k => XS.istore X9.here hx rfl (hb hby k45_24.1.1.2) rfl (l' := (a_RIJsIJsI3 r0 p1 q2 ng mq nn ee 1)) rfl k) ?_
      show Good p e below _ (T9.setTop (mkF m 373 (a_RIJsIJsI3 r0 p1 q2 ng mq nn ee 1) []))
      exact key373 ng mq nn ee mm eN _ _ X9 N9 eh9 (hm) (hmB) (hn) (he) (hle) (hE)
  have key282 : ∀ (ng : Int32) (mq : Int64) (nn : Int32) (ee : Int32) (mm : Nat) (eN : Nat) (Tk282 : State) (lk282 : List Loc) (Xk282 : Stand p l e R_23 s m #[(.ref r0), (.int p1), (.long q2)] below meth c Tk282 lk282 0 0) (Nk282 : Fr n0 lk282) (ek282 : Tk282.heap = h0) (hm : mq.toInt = (mm : Int)) (hmB : mm ≤ 4294967296) (hn : nn.toInt = ((own_dg mm).length : Int)) (he : ee.toInt = (eN : Int)) (hle : (own_dg mm).length ≤ eN + 1 ∧ eN ≤ 2000) (hE : ∀ j, j < (own_dg mm).length → cl[eN - j]? = some (Int32.ofNat (48 + mm / 10 ^ j % 10))), Good p e below (fun o U' => ∃ v L, o = .returned v ∧ Q45 Z r0 p1 q2 cs sv ks zs cl vf pn h0 n0 v U'.heap L ∧ FrameEnd s o U' L R_23.cells R_23.slots) (Tk282.setTop (mkF m 282 (a_RIJsIJsI3 r0 p1 q2 ng mq nn ee 1) [])) := by
    intro ng mq nn ee mm eN Tk282 lk282 Xk282 Nk282 ek282 hm hmB hn he hle hE
    show Good p e below _ (Tk282.setTop (mkF m 282 (a_RIJsIJsI3 r0 p1 q2 ng mq nn ee 1) []))
    refine Good.back (fun _ k => XS.iload Xk282.here hx rfl (hb hby k45_18.2.1.1) rfl k) ?_
    refine Good.back (fun _ k => XS.ifNo Xk282.here hx rfl (hb hby k45_18.2.1.2) rfl ((if0 _ _).trans (feq (by decide : ¬ ((1 : Int32) = (0 : Int32)))).1) k) ?_
    refine Good.back (fun _ k => XS.iload Xk282.here hx rfl (hb hby k45_18.2.2.1) rfl k) ?_
    refine Good.back (fun _ k => XS.bipush Xk282.here hx rfl (hb hby k45_18.2.2.2) k) ?_
    by_cases hc291_10 : nn < (6 : Int32)
    · refine Good.back (fun _ k => XS.icmpYes Xk282.here hx rfl (pc0 := 291) (pc' := 320) rfl (hb hby k45_19.1.1.1) rfl (tlt hc291_10).1 (by decide) (by decide) k) ?_
      refine Good.back (fun _ k => XS.iconst Xk282.here hx rfl (hb hby k45_21.1.1.1) k) ?_
      show Good p e below _ (Tk282.setTop (mkF m 321 (a_RIJsIJsI3 r0 p1 q2 ng mq nn ee 1) [.int 1]))
      refine Good.back (fun _ k => XS.goto Xk282.here hx rfl (pc0 := 321) (pc' := 325) rfl (hb hby k45_21.1.1.2) (by decide) (by decide) k) ?_
      refine Good.back (fun _ k => XS.istore Xk282.here hx rfl (hb hby k45_21.1.2.1) rfl (l' := (a_RIJsIJsI3 r0 p1 q2 ng mq nn ee 1)) rfl k) ?_
      show Good p e below _ (Tk282.setTop (mkF m 327 (a_RIJsIJsI3 r0 p1 q2 ng mq nn ee 1) []))
      exact key327 ng mq nn ee mm eN _ _ Xk282 Nk282 ek282 (hm) (hmB) (hn) (he) (hle) (hE)
    · refine Good.back (fun _ k => XS.icmpNo Xk282.here hx rfl (hb hby k45_19.1.1.1) rfl (flt hc291_10).1 k) ?_
      refine Good.back (fun _ k => XS.aloadN Xk282.here hx rfl (hb hby k45_19.1.1.2) rfl rfl k) ?_
      show Good p e below _ (Tk282.setTop (mkF m 295 (a_RIJsIJsI3 r0 p1 q2 ng mq nn ee 1) [.ref r0]))
      refine Good.back (fun _ k => XS.iload Xk282.here hx rfl (hb hby k45_19.1.2.1) rfl k) ?_
      refine Good.back (fun _ k => XS.iconst Xk282.here hx rfl (hb hby k45_19.1.2.2) k) ?_
      refine Good.back (fun _ k => XS.isub Xk282.here hx rfl (hb hby k45_19.2.1.1) rfl k) ?_
      have lj : 5 < (own_dg mm).length := by have q := hc291_10; rw [Int32.lt_iff_toInt_lt, hn, show (6 : Int32).toInt = 6 from rfl] at q; omega
      obtain ⟨cq11, kq11, q11a, q11b, q11c⟩ := isOf hZ ek282 Es
      obtain ⟨_, _, ⟨T11, L11, k11, n11⟩, -, X11, ⟨Lc11, hQ11, l11, y11, z11⟩, st11⟩ := Xk282.virtualBack hx (y := y_46) (z := y_46) hown (mvT hZ (wd hw 246 rfl)) (mvT hZ (wd hw 247 rfl)) (notFace_of_selects (args := #[]) (mvT hZ (wd hw 249 rfl))) (mvT hZ (wd hw 249 rfl)) (mvT hZ (wd hw 248 rfl)) (by decide) (backOf (W := 0) (rm46 l Z a0 hw [] r0 (ee - (5 : Int32)) cs sv ks zs cl vf (eN - 5) (Int32.ofNat (48 + (mm / 100000) % 10)) h0 n0 Z0 S_cs (hcs) Es Fsv Fsc Vs (hzs) S_f (hfm) (own_subI he (show (5 : Int32).toInt = ((5 : Nat) : Int) from rfl) (by omega) (by omega)) (hE 5 lj) (own_sgn _)) hZ (wd hw 250 rfl) (wd hw 30 rfl) (by decide) (by decide)) q11a q11c (g := (mkF m 299 (a_RIJsIJsI3 r0 p1 q2 ng mq nn ee 1) [.int (ee - (5 : Int32)), .ref r0])) rfl (by rw [hml]; rfl) (Steps.refl _) (argsL := [(.int (ee - (5 : Int32)))]) (rest := []) (lenOf own_pd34 rfl) rfl (by show 2 * 0 + _ ≤ _; exact Nat.le_of_eq rfl) (hb hby k45_19.2.1.2) (fun _ _ => ⟨rfl, ek282, (by decide : 0 + 0 ≤ _), (by decide : 0 + 0 ≤ _)⟩)
      dsimp only [Pt.U, Pt.locs, Pt.cells, Pt.slots] at X11 l11 y11 z11 st11 hQ11
      subst l11 y11 z11
      obtain ⟨rfl, N11q, eh11⟩ := hQ11
      have N11 := Fr.app Nk282 N11q
      refine Good.back (fun _ k => st11.trans k) ?_
      refine Good.back (fun _ k => XS.bipush X11.here hx rfl (hb hby k45_19.2.2.1) k) ?_
      refine Good.back (fun _ k => XS.lload X11.here hx rfl (hb hby k45_19.2.2.2) rfl k) ?_
      refine Good.back (X11.ldc2Long hx hown (mvT hZ (wd hw 277 rfl)) (g := (mkF m 306 (a_RIJsIJsI3 r0 p1 q2 ng mq nn ee 1) [.long mq, .int 48, .int (Int32.ofNat (48 + (mm / 100000) % 10))])) rfl (hb hby k45_20.1.1.1)) ?_
      refine Good.back (fun _ k => XS.ldiv X11.here hx rfl (hb hby k45_20.1.1.2) rfl (by decide) k) ?_
      refine Good.back (X11.ldc2Long hx hown (mvT hZ (wd hw 241 rfl)) (g := (mkF m 310 (a_RIJsIJsI3 r0 p1 q2 ng mq nn ee 1) [.long (mq / (100000 : Int64)), .int 48, .int (Int32.ofNat (48 + (mm / 100000) % 10))])) rfl (hb hby k45_20.1.2.1)) ?_
      refine Good.back (fun _ k => XS.lrem X11.here hx rfl (hb hby k45_20.1.2.2) rfl (by decide) k) ?_
      refine Good.back (fun _ k => XS.l2i X11.here hx rfl (hb hby k45_20.2.1.1) rfl k) ?_
      refine Good.back (fun _ k => XS.iadd X11.here hx rfl (hb hby k45_20.2.1.2) rfl k) ?_
      refine Good.back (fun _ k => XS.i2c X11.here hx rfl (hb hby k45_20.2.2.1) rfl k) ?_
      show Good p e below _ (T11.setTop (mkF m 317 (a_RIJsIJsI3 r0 p1 q2 ng mq nn ee 1) [.int (((48 : Int32) + (((mq / (100000 : Int64)) - ((mq / (100000 : Int64)) / (10 : Int64)) * (10 : Int64)).toInt32)).toUInt32.toUInt16.toUInt32.toInt32), .int (Int32.ofNat (48 + (mm / 100000) % 10))]))
      rw [show ((((48 : Int32) + (((mq / (100000 : Int64)) - ((mq / (100000 : Int64)) / (10 : Int64)) * (10 : Int64)).toInt32)).toUInt32.toUInt16.toUInt32.toInt32) : Int32) = (Int32.ofNat (48 + (mm / 100000) % 10)) from own_chk (own_chkD (k := 100000) hm rfl (by decide))]
      show Good p e below _ (T11.setTop (mkF m 317 (a_RIJsIJsI3 r0 p1 q2 ng mq nn ee 1) [.int (Int32.ofNat (48 + (mm / 100000) % 10)), .int (Int32.ofNat (48 + (mm / 100000) % 10))]))
      refine Good.back (fun _ k => XS.icmpNo X11.here hx rfl (hb hby k45_20.2.2.2) rfl (teq (rfl : (Int32.ofNat (48 + (mm / 100000) % 10)) = (Int32.ofNat (48 + (mm / 100000) % 10)))).2 k) ?_
      refine Good.back (fun _ k => XS.iconst X11.here hx rfl (hb hby k45_21.1.1.1) k) ?_
      refine Good.back (fun _ k => XS.goto X11.here hx rfl (pc0 := 321) (pc' := 325) rfl (hb hby k45_21.1.1.2) (by decide) (by decide) k) ?_
      refine Good.back (fun _ k => XS.istore X11.here hx rfl (hb hby k45_21.1.2.1) rfl (l' := (a_RIJsIJsI3 r0 p1 q2 ng mq nn ee 1)) rfl k) ?_
      show Good p e below _ (T11.setTop (mkF m 327 (a_RIJsIJsI3 r0 p1 q2 ng mq nn ee 1) []))
      exact key327 ng mq nn ee mm eN _ _ X11 N11 eh11 (hm) (hmB) (hn) (he) (hle) (hE)
  have key238 : ∀ (ng : Int32) (mq : Int64) (nn : Int32) (ee : Int32) (mm : Nat) (eN : Nat) (Tk238 : State) (lk238 : List Loc) (Xk238 : Stand p l e R_23 s m #[(.ref r0), (.int p1), (.long q2)] below meth c Tk238 lk238 0 0) (Nk238 : Fr n0 lk238) (ek238 : Tk238.heap = h0) (hm : mq.toInt = (mm : Int)) (hmB : mm ≤ 4294967296) (hn : nn.toInt = ((own_dg mm).length : Int)) (he : ee.toInt = (eN : Int)) (hle : (own_dg mm).length ≤ eN + 1 ∧ eN ≤ 2000) (hE : ∀ j, j < (own_dg mm).length → cl[eN - j]? = some (Int32.ofNat (48 + mm / 10 ^ j % 10))), Good p e below (fun o U' => ∃ v L, o = .returned v ∧ Q45 Z r0 p1 q2 cs sv ks zs cl vf pn h0 n0 v U'.heap L ∧ FrameEnd s o U' L R_23.cells R_23.slots) (Tk238.setTop (mkF m 238 (a_RIJsIJsI3 r0 p1 q2 ng mq nn ee 1) [])) := by
    intro ng mq nn ee mm eN Tk238 lk238 Xk238 Nk238 ek238 hm hmB hn he hle hE
    show Good p e below _ (Tk238.setTop (mkF m 238 (a_RIJsIJsI3 r0 p1 q2 ng mq nn ee 1) []))
    refine Good.back (fun _ k => XS.iload Xk238.here hx rfl (hb hby k45_15.2.1.2) rfl k) ?_
    refine Good.back (fun _ k => XS.ifNo Xk238.here hx rfl (hb hby k45_15.2.2.1) rfl ((if0 _ _).trans (feq (by decide : ¬ ((1 : Int32) = (0 : Int32)))).1) k) ?_
    refine Good.back (fun _ k => XS.iload Xk238.here hx rfl (hb hby k45_15.2.2.2) rfl k) ?_
    refine Good.back (fun _ k => XS.iconst Xk238.here hx rfl (hb hby k45_16.1.1.1) k) ?_
    by_cases hc246_12 : nn < (5 : Int32)
    · refine Good.back (fun _ k => XS.icmpYes Xk238.here hx rfl (pc0 := 246) (pc' := 275) rfl (hb hby k45_16.1.1.2) rfl (tlt hc246_12).1 (by decide) (by decide) k) ?_
      refine Good.back (fun _ k => XS.iconst Xk238.here hx rfl (hb hby k45_18.1.1.2) k) ?_
      show Good p e below _ (Tk238.setTop (mkF m 276 (a_RIJsIJsI3 r0 p1 q2 ng mq nn ee 1) [.int 1]))
      refine Good.back (fun _ k => XS.goto Xk238.here hx rfl (pc0 := 276) (pc' := 280) rfl (hb hby k45_18.1.2.1) (by decide) (by decide) k) ?_
      refine Good.back (fun _ k => XS.istore Xk238.here hx rfl (hb hby k45_18.1.2.2) rfl (l' := (a_RIJsIJsI3 r0 p1 q2 ng mq nn ee 1)) rfl k) ?_
      show Good p e below _ (Tk238.setTop (mkF m 282 (a_RIJsIJsI3 r0 p1 q2 ng mq nn ee 1) []))
      exact key282 ng mq nn ee mm eN _ _ Xk238 Nk238 ek238 (hm) (hmB) (hn) (he) (hle) (hE)
    · refine Good.back (fun _ k => XS.icmpNo Xk238.here hx rfl (hb hby k45_16.1.1.2) rfl (flt hc246_12).1 k) ?_
      refine Good.back (fun _ k => XS.aloadN Xk238.here hx rfl (hb hby k45_16.1.2.1) rfl rfl k) ?_
      show Good p e below _ (Tk238.setTop (mkF m 250 (a_RIJsIJsI3 r0 p1 q2 ng mq nn ee 1) [.ref r0]))
      refine Good.back (fun _ k => XS.iload Xk238.here hx rfl (hb hby k45_16.1.2.2) rfl k) ?_
      refine Good.back (fun _ k => XS.iconst Xk238.here hx rfl (hb hby k45_16.2.1.1) k) ?_
      refine Good.back (fun _ k => XS.isub Xk238.here hx rfl (hb hby k45_16.2.1.2) rfl k) ?_
      have lj : 4 < (own_dg mm).length := by have q := hc246_12; rw [Int32.lt_iff_toInt_lt, hn, show (5 : Int32).toInt = 5 from rfl] at q; omega
      obtain ⟨cq13, kq13, q13a, q13b, q13c⟩ := isOf hZ ek238 Es
      obtain ⟨_, _, ⟨T13, L13, k13, n13⟩, -, X13, ⟨Lc13, hQ13, l13, y13, z13⟩, st13⟩ := Xk238.virtualBack hx (y := y_46) (z := y_46) hown (mvT hZ (wd hw 246 rfl)) (mvT hZ (wd hw 247 rfl)) (notFace_of_selects (args := #[]) (mvT hZ (wd hw 249 rfl))) (mvT hZ (wd hw 249 rfl)) (mvT hZ (wd hw 248 rfl)) (by decide) (backOf (W := 0) (rm46 l Z a0 hw [] r0 (ee - (4 : Int32)) cs sv ks zs cl vf (eN - 4) (Int32.ofNat (48 + (mm / 10000) % 10)) h0 n0 Z0 S_cs (hcs) Es Fsv Fsc Vs (hzs) S_f (hfm) (own_subI he (show (4 : Int32).toInt = ((4 : Nat) : Int) from rfl) (by omega) (by omega)) (hE 4 lj) (own_sgn _)) hZ (wd hw 250 rfl) (wd hw 30 rfl) (by decide) (by decide)) q13a q13c (g := (mkF m 254 (a_RIJsIJsI3 r0 p1 q2 ng mq nn ee 1) [.int (ee - (4 : Int32)), .ref r0])) rfl (by rw [hml]; rfl) (Steps.refl _) (argsL := [(.int (ee - (4 : Int32)))]) (rest := []) (lenOf own_pd34 rfl) rfl (by show 2 * 0 + _ ≤ _; exact Nat.le_of_eq rfl) (hb hby k45_16.2.2.1) (fun _ _ => ⟨rfl, ek238, (by decide : 0 + 0 ≤ _), (by decide : 0 + 0 ≤ _)⟩)
      dsimp only [Pt.U, Pt.locs, Pt.cells, Pt.slots] at X13 l13 y13 z13 st13 hQ13
      subst l13 y13 z13
      obtain ⟨rfl, N13q, eh13⟩ := hQ13
      have N13 := Fr.app Nk238 N13q
      refine Good.back (fun _ k => st13.trans k) ?_
      refine Good.back (fun _ k => XS.bipush X13.here hx rfl (hb hby k45_16.2.2.2) k) ?_
      refine Good.back (fun _ k => XS.lload X13.here hx rfl (hb hby k45_17.1.1.1) rfl k) ?_
      refine Good.back (X13.ldc2Long hx hown (mvT hZ (wd hw 276 rfl)) (g := (mkF m 261 (a_RIJsIJsI3 r0 p1 q2 ng mq nn ee 1) [.long mq, .int 48, .int (Int32.ofNat (48 + (mm / 10000) % 10))])) rfl (hb hby k45_17.1.1.2)) ?_
      refine Good.back (fun _ k => XS.ldiv X13.here hx rfl (hb hby k45_17.1.2.1) rfl (by decide) k) ?_
      refine Good.back (X13.ldc2Long hx hown (mvT hZ (wd hw 241 rfl)) (g := (mkF m 265 (a_RIJsIJsI3 r0 p1 q2 ng mq nn ee 1) [.long (mq / (10000 : Int64)), .int 48, .int (Int32.ofNat (48 + (mm / 10000) % 10))])) rfl (hb hby k45_17.1.2.2)) ?_
      refine Good.back (fun _ k => XS.lrem X13.here hx rfl (hb hby k45_17.2.1.1) rfl (by decide) k) ?_
      refine Good.back (fun _ k => XS.l2i X13.here hx rfl (hb hby k45_17.2.1.2) rfl k) ?_
      refine Good.back (fun _ k => XS.iadd X13.here hx rfl (hb hby k45_17.2.2.1) rfl k) ?_
      refine Good.back (fun _ k => XS.i2c X13.here hx rfl (hb hby k45_17.2.2.2) rfl k) ?_
      show Good p e below _ (T13.setTop (mkF m 272 (a_RIJsIJsI3 r0 p1 q2 ng mq nn ee 1) [.int (((48 : Int32) + (((mq / (10000 : Int64)) - ((mq / (10000 : Int64)) / (10 : Int64)) * (10 : Int64)).toInt32)).toUInt32.toUInt16.toUInt32.toInt32), .int (Int32.ofNat (48 + (mm / 10000) % 10))]))
      rw [show ((((48 : Int32) + (((mq / (10000 : Int64)) - ((mq / (10000 : Int64)) / (10 : Int64)) * (10 : Int64)).toInt32)).toUInt32.toUInt16.toUInt32.toInt32) : Int32) = (Int32.ofNat (48 + (mm / 10000) % 10)) from own_chk (own_chkD (k := 10000) hm rfl (by decide))]
      show Good p e below _ (T13.setTop (mkF m 272 (a_RIJsIJsI3 r0 p1 q2 ng mq nn ee 1) [.int (Int32.ofNat (48 + (mm / 10000) % 10)), .int (Int32.ofNat (48 + (mm / 10000) % 10))]))
      refine Good.back (fun _ k => XS.icmpNo X13.here hx rfl (hb hby k45_18.1.1.1) rfl (teq (rfl : (Int32.ofNat (48 + (mm / 10000) % 10)) = (Int32.ofNat (48 + (mm / 10000) % 10)))).2 k) ?_
      refine Good.back (fun _ k => XS.iconst X13.here hx rfl (hb hby k45_18.1.1.2) k) ?_
      refine Good.back (fun _ k => XS.goto X13.here hx rfl (pc0 := 276) (pc' := 280) rfl (hb hby k45_18.1.2.1) (by decide) (by decide) k) ?_
      refine Good.back (fun _ k => XS.istore X13.here hx rfl (hb hby k45_18.1.2.2) rfl (l' := (a_RIJsIJsI3 r0 p1 q2 ng mq nn ee 1)) rfl k) ?_
      show Good p e below _ (T13.setTop (mkF m 282 (a_RIJsIJsI3 r0 p1 q2 ng mq nn ee 1) []))
      exact key282 ng mq nn ee mm eN _ _ X13 N13 eh13 (hm) (hmB) (hn) (he) (hle) (hE)
  have key194 : ∀ (ng : Int32) (mq : Int64) (nn : Int32) (ee : Int32) (mm : Nat) (eN : Nat) (Tk194 : State) (lk194 : List Loc) (Xk194 : Stand p l e R_23 s m #[(.ref r0), (.int p1), (.long q2)] below meth c Tk194 lk194 0 0) (Nk194 : Fr n0 lk194) (ek194 : Tk194.heap = h0) (hm : mq.toInt = (mm : Int)) (hmB : mm ≤ 4294967296) (hn : nn.toInt = ((own_dg mm).length : Int)) (he : ee.toInt = (eN : Int)) (hle : (own_dg mm).length ≤ eN + 1 ∧ eN ≤ 2000) (hE : ∀ j, j < (own_dg mm).length → cl[eN - j]? = some (Int32.ofNat (48 + mm / 10 ^ j % 10))), Good p e below (fun o U' => ∃ v L, o = .returned v ∧ Q45 Z r0 p1 q2 cs sv ks zs cl vf pn h0 n0 v U'.heap L ∧ FrameEnd s o U' L R_23.cells R_23.slots) (Tk194.setTop (mkF m 194 (a_RIJsIJsI3 r0 p1 q2 ng mq nn ee 1) [])) := by
    intro ng mq nn ee mm eN Tk194 lk194 Xk194 Nk194 ek194 hm hmB hn he hle hE
    show Good p e below _ (Tk194.setTop (mkF m 194 (a_RIJsIJsI3 r0 p1 q2 ng mq nn ee 1) []))
    refine Good.back (fun _ k => XS.iload Xk194.here hx rfl (hb hby k45_12.2.2.1) rfl k) ?_
    refine Good.back (fun _ k => XS.ifNo Xk194.here hx rfl (hb hby k45_12.2.2.2) rfl ((if0 _ _).trans (feq (by decide : ¬ ((1 : Int32) = (0 : Int32)))).1) k) ?_
    refine Good.back (fun _ k => XS.iload Xk194.here hx rfl (hb hby k45_13.1.1.1) rfl k) ?_
    refine Good.back (fun _ k => XS.iconst Xk194.here hx rfl (hb hby k45_13.1.1.2) k) ?_
    by_cases hc202_14 : nn < (4 : Int32)
    · refine Good.back (fun _ k => XS.icmpYes Xk194.here hx rfl (pc0 := 202) (pc' := 231) rfl (hb hby k45_13.1.2.1) rfl (tlt hc202_14).1 (by decide) (by decide) k) ?_
      refine Good.back (fun _ k => XS.iconst Xk194.here hx rfl (hb hby k45_15.1.2.1) k) ?_
      show Good p e below _ (Tk194.setTop (mkF m 232 (a_RIJsIJsI3 r0 p1 q2 ng mq nn ee 1) [.int 1]))
      refine Good.back (fun _ k => XS.goto Xk194.here hx rfl (pc0 := 232) (pc' := 236) rfl (hb hby k45_15.1.2.2) (by decide) (by decide) k) ?_
      refine Good.back (fun _ k => XS.istore Xk194.here hx rfl (hb hby k45_15.2.1.1) rfl (l' := (a_RIJsIJsI3 r0 p1 q2 ng mq nn ee 1)) rfl k) ?_
      show Good p e below _ (Tk194.setTop (mkF m 238 (a_RIJsIJsI3 r0 p1 q2 ng mq nn ee 1) []))
      exact key238 ng mq nn ee mm eN _ _ Xk194 Nk194 ek194 (hm) (hmB) (hn) (he) (hle) (hE)
    · refine Good.back (fun _ k => XS.icmpNo Xk194.here hx rfl (hb hby k45_13.1.2.1) rfl (flt hc202_14).1 k) ?_
      refine Good.back (fun _ k => XS.aloadN Xk194.here hx rfl (hb hby k45_13.1.2.2) rfl rfl k) ?_
      show Good p e below _ (Tk194.setTop (mkF m 206 (a_RIJsIJsI3 r0 p1 q2 ng mq nn ee 1) [.ref r0]))
      refine Good.back (fun _ k => XS.iload Xk194.here hx rfl (hb hby k45_13.2.1.1) rfl k) ?_
      refine Good.back (fun _ k => XS.iconst Xk194.here hx rfl (hb hby k45_13.2.1.2) k) ?_
      refine Good.back (fun _ k => XS.isub Xk194.here hx rfl (hb hby k45_13.2.2.1) rfl k) ?_
      have lj : 3 < (own_dg mm).length := by have q := hc202_14; rw [Int32.lt_iff_toInt_lt, hn, show (4 : Int32).toInt = 4 from rfl] at q; omega
      obtain ⟨cq15, kq15, q15a, q15b, q15c⟩ := isOf hZ ek194 Es
      obtain ⟨_, _, ⟨T15, L15, k15, n15⟩, -, X15, ⟨Lc15, hQ15, l15, y15, z15⟩, st15⟩ := Xk194.virtualBack hx (y := y_46) (z := y_46) hown (mvT hZ (wd hw 246 rfl)) (mvT hZ (wd hw 247 rfl)) (notFace_of_selects (args := #[]) (mvT hZ (wd hw 249 rfl))) (mvT hZ (wd hw 249 rfl)) (mvT hZ (wd hw 248 rfl)) (by decide) (backOf (W := 0) (rm46 l Z a0 hw [] r0 (ee - (3 : Int32)) cs sv ks zs cl vf (eN - 3) (Int32.ofNat (48 + (mm / 1000) % 10)) h0 n0 Z0 S_cs (hcs) Es Fsv Fsc Vs (hzs) S_f (hfm) (own_subI he (show (3 : Int32).toInt = ((3 : Nat) : Int) from rfl) (by omega) (by omega)) (hE 3 lj) (own_sgn _)) hZ (wd hw 250 rfl) (wd hw 30 rfl) (by decide) (by decide)) q15a q15c (g := (mkF m 210 (a_RIJsIJsI3 r0 p1 q2 ng mq nn ee 1) [.int (ee - (3 : Int32)), .ref r0])) rfl (by rw [hml]; rfl) (Steps.refl _) (argsL := [(.int (ee - (3 : Int32)))]) (rest := []) (lenOf own_pd34 rfl) rfl (by show 2 * 0 + _ ≤ _; exact Nat.le_of_eq rfl) (hb hby k45_13.2.2.2) (fun _ _ => ⟨rfl, ek194, (by decide : 0 + 0 ≤ _), (by decide : 0 + 0 ≤ _)⟩)
      dsimp only [Pt.U, Pt.locs, Pt.cells, Pt.slots] at X15 l15 y15 z15 st15 hQ15
      subst l15 y15 z15
      obtain ⟨rfl, N15q, eh15⟩ := hQ15
      have N15 := Fr.app Nk194 N15q
      refine Good.back (fun _ k => st15.trans k) ?_
      refine Good.back (fun _ k => XS.bipush X15.here hx rfl (hb hby k45_14.1.1.1) k) ?_
      refine Good.back (fun _ k => XS.lload X15.here hx rfl (hb hby k45_14.1.1.2) rfl k) ?_
      refine Good.back (X15.ldc2Long hx hown (mvT hZ (wd hw 275 rfl)) (g := (mkF m 217 (a_RIJsIJsI3 r0 p1 q2 ng mq nn ee 1) [.long mq, .int 48, .int (Int32.ofNat (48 + (mm / 1000) % 10))])) rfl (hb hby k45_14.1.2.1)) ?_
      refine Good.back (fun _ k => XS.ldiv X15.here hx rfl (hb hby k45_14.1.2.2) rfl (by decide) k) ?_
      refine Good.back (X15.ldc2Long hx hown (mvT hZ (wd hw 241 rfl)) (g := (mkF m 221 (a_RIJsIJsI3 r0 p1 q2 ng mq nn ee 1) [.long (mq / (1000 : Int64)), .int 48, .int (Int32.ofNat (48 + (mm / 1000) % 10))])) rfl (hb hby k45_14.2.1.1)) ?_
      refine Good.back (fun _ k => XS.lrem X15.here hx rfl (hb hby k45_14.2.1.2) rfl (by decide) k) ?_
      refine Good.back (fun _ k => XS.l2i X15.here hx rfl (hb hby k45_14.2.2.1) rfl k) ?_
      refine Good.back (fun _ k => XS.iadd X15.here hx rfl (hb hby k45_14.2.2.2) rfl k) ?_
      refine Good.back (fun _ k => XS.i2c X15.here hx rfl (hb hby k45_15.1.1.1) rfl k) ?_
      show Good p e below _ (T15.setTop (mkF m 228 (a_RIJsIJsI3 r0 p1 q2 ng mq nn ee 1) [.int (((48 : Int32) + (((mq / (1000 : Int64)) - ((mq / (1000 : Int64)) / (10 : Int64)) * (10 : Int64)).toInt32)).toUInt32.toUInt16.toUInt32.toInt32), .int (Int32.ofNat (48 + (mm / 1000) % 10))]))
      rw [show ((((48 : Int32) + (((mq / (1000 : Int64)) - ((mq / (1000 : Int64)) / (10 : Int64)) * (10 : Int64)).toInt32)).toUInt32.toUInt16.toUInt32.toInt32) : Int32) = (Int32.ofNat (48 + (mm / 1000) % 10)) from own_chk (own_chkD (k := 1000) hm rfl (by decide))]
      show Good p e below _ (T15.setTop (mkF m 228 (a_RIJsIJsI3 r0 p1 q2 ng mq nn ee 1) [.int (Int32.ofNat (48 + (mm / 1000) % 10)), .int (Int32.ofNat (48 + (mm / 1000) % 10))]))
      refine Good.back (fun _ k => XS.icmpNo X15.here hx rfl (hb hby k45_15.1.1.2) rfl (teq (rfl : (Int32.ofNat (48 + (mm / 1000) % 10)) = (Int32.ofNat (48 + (mm / 1000) % 10)))).2 k) ?_
      refine Good.back (fun _ k => XS.iconst X15.here hx rfl (hb hby k45_15.1.2.1) k) ?_
      refine Good.back (fun _ k => XS.goto X15.here hx rfl (pc0 := 232) (pc' := 236) rfl (hb hby k45_15.1.2.2) (by decide) (by decide) k) ?_
      refine Good.back (fun _ k => XS.istore X15.here hx rfl (hb hby k45_15.2.1.1) rfl (l' := (a_RIJsIJsI3 r0 p1 q2 ng mq nn ee 1)) rfl k) ?_
      show Good p e below _ (T15.setTop (mkF m 238 (a_RIJsIJsI3 r0 p1 q2 ng mq nn ee 1) []))
      exact key238 ng mq nn ee mm eN _ _ X15 N15 eh15 (hm) (hmB) (hn) (he) (hle) (hE)
  have key150 : ∀ (ng : Int32) (mq : Int64) (nn : Int32) (ee : Int32) (mm : Nat) (eN : Nat) (Tk150 : State) (lk150 : List Loc) (Xk150 : Stand p l e R_23 s m #[(.ref r0), (.int p1), (.long q2)] below meth c Tk150 lk150 0 0) (Nk150 : Fr n0 lk150) (ek150 : Tk150.heap = h0) (hm : mq.toInt = (mm : Int)) (hmB : mm ≤ 4294967296) (hn : nn.toInt = ((own_dg mm).length : Int)) (he : ee.toInt = (eN : Int)) (hle : (own_dg mm).length ≤ eN + 1 ∧ eN ≤ 2000) (hE : ∀ j, j < (own_dg mm).length → cl[eN - j]? = some (Int32.ofNat (48 + mm / 10 ^ j % 10))), Good p e below (fun o U' => ∃ v L, o = .returned v ∧ Q45 Z r0 p1 q2 cs sv ks zs cl vf pn h0 n0 v U'.heap L ∧ FrameEnd s o U' L R_23.cells R_23.slots) (Tk150.setTop (mkF m 150 (a_RIJsIJsI3 r0 p1 q2 ng mq nn ee 1) [])) := by
    intro ng mq nn ee mm eN Tk150 lk150 Xk150 Nk150 ek150 hm hmB hn he hle hE
    show Good p e below _ (Tk150.setTop (mkF m 150 (a_RIJsIJsI3 r0 p1 q2 ng mq nn ee 1) []))
    refine Good.back (fun _ k => XS.iload Xk150.here hx rfl (hb hby k45_9.2.2.2) rfl k) ?_
    refine Good.back (fun _ k => XS.ifNo Xk150.here hx rfl (hb hby k45_10.1.1.1) rfl ((if0 _ _).trans (feq (by decide : ¬ ((1 : Int32) = (0 : Int32)))).1) k) ?_
    refine Good.back (fun _ k => XS.iload Xk150.here hx rfl (hb hby k45_10.1.1.2) rfl k) ?_
    refine Good.back (fun _ k => XS.iconst Xk150.here hx rfl (hb hby k45_10.1.2.1) k) ?_
    by_cases hc158_16 : nn < (3 : Int32)
    · refine Good.back (fun _ k => XS.icmpYes Xk150.here hx rfl (pc0 := 158) (pc' := 187) rfl (hb hby k45_10.1.2.2) rfl (tlt hc158_16).1 (by decide) (by decide) k) ?_
      refine Good.back (fun _ k => XS.iconst Xk150.here hx rfl (hb hby k45_12.1.2.2) k) ?_
      show Good p e below _ (Tk150.setTop (mkF m 188 (a_RIJsIJsI3 r0 p1 q2 ng mq nn ee 1) [.int 1]))
      refine Good.back (fun _ k => XS.goto Xk150.here hx rfl (pc0 := 188) (pc' := 192) rfl (hb hby k45_12.2.1.1) (by decide) (by decide) k) ?_
      refine Good.back (fun _ k => XS.istore Xk150.here hx rfl (hb hby k45_12.2.1.2) rfl (l' := (a_RIJsIJsI3 r0 p1 q2 ng mq nn ee 1)) rfl k) ?_
      show Good p e below _ (Tk150.setTop (mkF m 194 (a_RIJsIJsI3 r0 p1 q2 ng mq nn ee 1) []))
      exact key194 ng mq nn ee mm eN _ _ Xk150 Nk150 ek150 (hm) (hmB) (hn) (he) (hle) (hE)
    · refine Good.back (fun _ k => XS.icmpNo Xk150.here hx rfl (hb hby k45_10.1.2.2) rfl (flt hc158_16).1 k) ?_
      refine Good.back (fun _ k => XS.aloadN Xk150.here hx rfl (hb hby k45_10.2.1.1) rfl rfl k) ?_
      show Good p e below _ (Tk150.setTop (mkF m 162 (a_RIJsIJsI3 r0 p1 q2 ng mq nn ee 1) [.ref r0]))
      refine Good.back (fun _ k => XS.iload Xk150.here hx rfl (hb hby k45_10.2.1.2) rfl k) ?_
      refine Good.back (fun _ k => XS.iconst Xk150.here hx rfl (hb hby k45_10.2.2.1) k) ?_
      refine Good.back (fun _ k => XS.isub Xk150.here hx rfl (hb hby k45_10.2.2.2) rfl k) ?_
      have lj : 2 < (own_dg mm).length := by have q := hc158_16; rw [Int32.lt_iff_toInt_lt, hn, show (3 : Int32).toInt = 3 from rfl] at q; omega
      obtain ⟨cq17, kq17, q17a, q17b, q17c⟩ := isOf hZ ek150 Es
      obtain ⟨_, _, ⟨T17, L17, k17, n17⟩, -, X17, ⟨Lc17, hQ17, l17, y17, z17⟩, st17⟩ := Xk150.virtualBack hx (y := y_46) (z := y_46) hown (mvT hZ (wd hw 246 rfl)) (mvT hZ (wd hw 247 rfl)) (notFace_of_selects (args := #[]) (mvT hZ (wd hw 249 rfl))) (mvT hZ (wd hw 249 rfl)) (mvT hZ (wd hw 248 rfl)) (by decide) (backOf (W := 0) (rm46 l Z a0 hw [] r0 (ee - (2 : Int32)) cs sv ks zs cl vf (eN - 2) (Int32.ofNat (48 + (mm / 100) % 10)) h0 n0 Z0 S_cs (hcs) Es Fsv Fsc Vs (hzs) S_f (hfm) (own_subI he (show (2 : Int32).toInt = ((2 : Nat) : Int) from rfl) (by omega) (by omega)) (hE 2 lj) (own_sgn _)) hZ (wd hw 250 rfl) (wd hw 30 rfl) (by decide) (by decide)) q17a q17c (g := (mkF m 166 (a_RIJsIJsI3 r0 p1 q2 ng mq nn ee 1) [.int (ee - (2 : Int32)), .ref r0])) rfl (by rw [hml]; rfl) (Steps.refl _) (argsL := [(.int (ee - (2 : Int32)))]) (rest := []) (lenOf own_pd34 rfl) rfl (by show 2 * 0 + _ ≤ _; exact Nat.le_of_eq rfl) (hb hby k45_11.1.1.1) (fun _ _ => ⟨rfl, ek150, (by decide : 0 + 0 ≤ _), (by decide : 0 + 0 ≤ _)⟩)
      dsimp only [Pt.U, Pt.locs, Pt.cells, Pt.slots] at X17 l17 y17 z17 st17 hQ17
      subst l17 y17 z17
      obtain ⟨rfl, N17q, eh17⟩ := hQ17
      have N17 := Fr.app Nk150 N17q
      refine Good.back (fun _ k => st17.trans k) ?_
      refine Good.back (fun _ k => XS.bipush X17.here hx rfl (hb hby k45_11.1.1.2) k) ?_
      refine Good.back (fun _ k => XS.lload X17.here hx rfl (hb hby k45_11.1.2.1) rfl k) ?_
      refine Good.back (X17.ldc2Long hx hown (mvT hZ (wd hw 274 rfl)) (g := (mkF m 173 (a_RIJsIJsI3 r0 p1 q2 ng mq nn ee 1) [.long mq, .int 48, .int (Int32.ofNat (48 + (mm / 100) % 10))])) rfl (hb hby k45_11.1.2.2)) ?_
      refine Good.back (fun _ k => XS.ldiv X17.here hx rfl (hb hby k45_11.2.1.1) rfl (by decide) k) ?_
      refine Good.back (X17.ldc2Long hx hown (mvT hZ (wd hw 241 rfl)) (g := (mkF m 177 (a_RIJsIJsI3 r0 p1 q2 ng mq nn ee 1) [.long (mq / (100 : Int64)), .int 48, .int (Int32.ofNat (48 + (mm / 100) % 10))])) rfl (hb hby k45_11.2.1.2)) ?_
      refine Good.back (fun _ k => XS.lrem X17.here hx rfl (hb hby k45_11.2.2.1) rfl (by decide) k) ?_
      refine Good.back (fun _ k => XS.l2i X17.here hx rfl (hb hby k45_11.2.2.2) rfl k) ?_
      refine Good.back (fun _ k => XS.iadd X17.here hx rfl (hb hby k45_12.1.1.1) rfl k) ?_
      refine Good.back (fun _ k => XS.i2c X17.here hx rfl (hb hby k45_12.1.1.2) rfl k) ?_
      show Good p e below _ (T17.setTop (mkF m 184 (a_RIJsIJsI3 r0 p1 q2 ng mq nn ee 1) [.int (((48 : Int32) + (((mq / (100 : Int64)) - ((mq / (100 : Int64)) / (10 : Int64)) * (10 : Int64)).toInt32)).toUInt32.toUInt16.toUInt32.toInt32), .int (Int32.ofNat (48 + (mm / 100) % 10))]))
      rw [show ((((48 : Int32) + (((mq / (100 : Int64)) - ((mq / (100 : Int64)) / (10 : Int64)) * (10 : Int64)).toInt32)).toUInt32.toUInt16.toUInt32.toInt32) : Int32) = (Int32.ofNat (48 + (mm / 100) % 10)) from own_chk (own_chkD (k := 100) hm rfl (by decide))]
      show Good p e below _ (T17.setTop (mkF m 184 (a_RIJsIJsI3 r0 p1 q2 ng mq nn ee 1) [.int (Int32.ofNat (48 + (mm / 100) % 10)), .int (Int32.ofNat (48 + (mm / 100) % 10))]))
      refine Good.back (fun _ k => XS.icmpNo X17.here hx rfl (hb hby k45_12.1.2.1) rfl (teq (rfl : (Int32.ofNat (48 + (mm / 100) % 10)) = (Int32.ofNat (48 + (mm / 100) % 10)))).2 k) ?_
      refine Good.back (fun _ k => XS.iconst X17.here hx rfl (hb hby k45_12.1.2.2) k) ?_
      refine Good.back (fun _ k => XS.goto X17.here hx rfl (pc0 := 188) (pc' := 192) rfl (hb hby k45_12.2.1.1) (by decide) (by decide) k) ?_
      refine Good.back (fun _ k => XS.istore X17.here hx rfl (hb hby k45_12.2.1.2) rfl (l' := (a_RIJsIJsI3 r0 p1 q2 ng mq nn ee 1)) rfl k) ?_
      show Good p e below _ (T17.setTop (mkF m 194 (a_RIJsIJsI3 r0 p1 q2 ng mq nn ee 1) []))
      exact key194 ng mq nn ee mm eN _ _ X17 N17 eh17 (hm) (hmB) (hn) (he) (hle) (hE)
  have key106 : ∀ (ng : Int32) (mq : Int64) (nn : Int32) (ee : Int32) (mm : Nat) (eN : Nat) (Tk106 : State) (lk106 : List Loc) (Xk106 : Stand p l e R_23 s m #[(.ref r0), (.int p1), (.long q2)] below meth c Tk106 lk106 0 0) (Nk106 : Fr n0 lk106) (ek106 : Tk106.heap = h0) (hm : mq.toInt = (mm : Int)) (hmB : mm ≤ 4294967296) (hn : nn.toInt = ((own_dg mm).length : Int)) (he : ee.toInt = (eN : Int)) (hle : (own_dg mm).length ≤ eN + 1 ∧ eN ≤ 2000) (hE : ∀ j, j < (own_dg mm).length → cl[eN - j]? = some (Int32.ofNat (48 + mm / 10 ^ j % 10))), Good p e below (fun o U' => ∃ v L, o = .returned v ∧ Q45 Z r0 p1 q2 cs sv ks zs cl vf pn h0 n0 v U'.heap L ∧ FrameEnd s o U' L R_23.cells R_23.slots) (Tk106.setTop (mkF m 106 (a_RIJsIJsI3 r0 p1 q2 ng mq nn ee 1) [])) := by
    intro ng mq nn ee mm eN Tk106 lk106 Xk106 Nk106 ek106 hm hmB hn he hle hE
    show Good p e below _ (Tk106.setTop (mkF m 106 (a_RIJsIJsI3 r0 p1 q2 ng mq nn ee 1) []))
    refine Good.back (fun _ k => XS.iload Xk106.here hx rfl (hb hby k45_7.1.1.1) rfl k) ?_
    refine Good.back (fun _ k => XS.ifNo Xk106.here hx rfl (hb hby k45_7.1.1.2) rfl ((if0 _ _).trans (feq (by decide : ¬ ((1 : Int32) = (0 : Int32)))).1) k) ?_
    refine Good.back (fun _ k => XS.iload Xk106.here hx rfl (hb hby k45_7.1.2.1) rfl k) ?_
    refine Good.back (fun _ k => XS.iconst Xk106.here hx rfl (hb hby k45_7.1.2.2) k) ?_
    by_cases hc114_18 : nn < (2 : Int32)
    · refine Good.back (fun _ k => XS.icmpYes Xk106.here hx rfl (pc0 := 114) (pc' := 143) rfl (hb hby k45_7.2.1.1) rfl (tlt hc114_18).1 (by decide) (by decide) k) ?_
      refine Good.back (fun _ k => XS.iconst Xk106.here hx rfl (hb hby k45_9.2.1.1) k) ?_
      show Good p e below _ (Tk106.setTop (mkF m 144 (a_RIJsIJsI3 r0 p1 q2 ng mq nn ee 1) [.int 1]))
      refine Good.back (fun _ k => XS.goto Xk106.here hx rfl (pc0 := 144) (pc' := 148) rfl (hb hby k45_9.2.1.2) (by decide) (by decide) k) ?_
      refine Good.back (fun _ k => XS.istore Xk106.here hx rfl (hb hby k45_9.2.2.1) rfl (l' := (a_RIJsIJsI3 r0 p1 q2 ng mq nn ee 1)) rfl k) ?_
      show Good p e below _ (Tk106.setTop (mkF m 150 (a_RIJsIJsI3 r0 p1 q2 ng mq nn ee 1) []))
      exact key150 ng mq nn ee mm eN _ _ Xk106 Nk106 ek106 (hm) (hmB) (hn) (he) (hle) (hE)
    · refine Good.back (fun _ k => XS.icmpNo Xk106.here hx rfl (hb hby k45_7.2.1.1) rfl (flt hc114_18).1 k) ?_
      refine Good.back (fun _ k => XS.aloadN Xk106.here hx rfl (hb hby k45_7.2.1.2) rfl rfl k) ?_
      show Good p e below _ (Tk106.setTop (mkF m 118 (a_RIJsIJsI3 r0 p1 q2 ng mq nn ee 1) [.ref r0]))
      refine Good.back (fun _ k => XS.iload Xk106.here hx rfl (hb hby k45_7.2.2.1) rfl k) ?_
      refine Good.back (fun _ k => XS.iconst Xk106.here hx rfl (hb hby k45_7.2.2.2) k) ?_
      refine Good.back (fun _ k => XS.isub Xk106.here hx rfl (hb hby k45_8.1.1.1) rfl k) ?_
      have lj : 1 < (own_dg mm).length := by have q := hc114_18; rw [Int32.lt_iff_toInt_lt, hn, show (2 : Int32).toInt = 2 from rfl] at q; omega
      obtain ⟨cq19, kq19, q19a, q19b, q19c⟩ := isOf hZ ek106 Es
      obtain ⟨_, _, ⟨T19, L19, k19, n19⟩, -, X19, ⟨Lc19, hQ19, l19, y19, z19⟩, st19⟩ := Xk106.virtualBack hx (y := y_46) (z := y_46) hown (mvT hZ (wd hw 246 rfl)) (mvT hZ (wd hw 247 rfl)) (notFace_of_selects (args := #[]) (mvT hZ (wd hw 249 rfl))) (mvT hZ (wd hw 249 rfl)) (mvT hZ (wd hw 248 rfl)) (by decide) (backOf (W := 0) (rm46 l Z a0 hw [] r0 (ee - (1 : Int32)) cs sv ks zs cl vf (eN - 1) (Int32.ofNat (48 + (mm / 10) % 10)) h0 n0 Z0 S_cs (hcs) Es Fsv Fsc Vs (hzs) S_f (hfm) (own_subI he (show (1 : Int32).toInt = ((1 : Nat) : Int) from rfl) (by omega) (by omega)) (hE 1 lj) (own_sgn _)) hZ (wd hw 250 rfl) (wd hw 30 rfl) (by decide) (by decide)) q19a q19c (g := (mkF m 122 (a_RIJsIJsI3 r0 p1 q2 ng mq nn ee 1) [.int (ee - (1 : Int32)), .ref r0])) rfl (by rw [hml]; rfl) (Steps.refl _) (argsL := [(.int (ee - (1 : Int32)))]) (rest := []) (lenOf own_pd34 rfl) rfl (by show 2 * 0 + _ ≤ _; exact Nat.le_of_eq rfl) (hb hby k45_8.1.1.2) (fun _ _ => ⟨rfl, ek106, (by decide : 0 + 0 ≤ _), (by decide : 0 + 0 ≤ _)⟩)
      dsimp only [Pt.U, Pt.locs, Pt.cells, Pt.slots] at X19 l19 y19 z19 st19 hQ19
      subst l19 y19 z19
      obtain ⟨rfl, N19q, eh19⟩ := hQ19
      have N19 := Fr.app Nk106 N19q
      refine Good.back (fun _ k => st19.trans k) ?_
      refine Good.back (fun _ k => XS.bipush X19.here hx rfl (hb hby k45_8.1.2.1) k) ?_
      refine Good.back (fun _ k => XS.lload X19.here hx rfl (hb hby k45_8.1.2.2) rfl k) ?_
      refine Good.back (X19.ldc2Long hx hown (mvT hZ (wd hw 241 rfl)) (g := (mkF m 129 (a_RIJsIJsI3 r0 p1 q2 ng mq nn ee 1) [.long mq, .int 48, .int (Int32.ofNat (48 + (mm / 10) % 10))])) rfl (hb hby k45_8.2.1.1)) ?_
      refine Good.back (fun _ k => XS.ldiv X19.here hx rfl (hb hby k45_8.2.1.2) rfl (by decide) k) ?_
      refine Good.back (X19.ldc2Long hx hown (mvT hZ (wd hw 241 rfl)) (g := (mkF m 133 (a_RIJsIJsI3 r0 p1 q2 ng mq nn ee 1) [.long (mq / (10 : Int64)), .int 48, .int (Int32.ofNat (48 + (mm / 10) % 10))])) rfl (hb hby k45_8.2.2.1)) ?_
      refine Good.back (fun _ k => XS.lrem X19.here hx rfl (hb hby k45_8.2.2.2) rfl (by decide) k) ?_
      refine Good.back (fun _ k => XS.l2i X19.here hx rfl (hb hby k45_9.1.1.1) rfl k) ?_
      refine Good.back (fun _ k => XS.iadd X19.here hx rfl (hb hby k45_9.1.1.2) rfl k) ?_
      refine Good.back (fun _ k => XS.i2c X19.here hx rfl (hb hby k45_9.1.2.1) rfl k) ?_
      show Good p e below _ (T19.setTop (mkF m 140 (a_RIJsIJsI3 r0 p1 q2 ng mq nn ee 1) [.int (((48 : Int32) + (((mq / (10 : Int64)) - ((mq / (10 : Int64)) / (10 : Int64)) * (10 : Int64)).toInt32)).toUInt32.toUInt16.toUInt32.toInt32), .int (Int32.ofNat (48 + (mm / 10) % 10))]))
      rw [show ((((48 : Int32) + (((mq / (10 : Int64)) - ((mq / (10 : Int64)) / (10 : Int64)) * (10 : Int64)).toInt32)).toUInt32.toUInt16.toUInt32.toInt32) : Int32) = (Int32.ofNat (48 + (mm / 10) % 10)) from own_chk (own_chkD (k := 10) hm rfl (by decide))]
      show Good p e below _ (T19.setTop (mkF m 140 (a_RIJsIJsI3 r0 p1 q2 ng mq nn ee 1) [.int (Int32.ofNat (48 + (mm / 10) % 10)), .int (Int32.ofNat (48 + (mm / 10) % 10))]))
      refine Good.back (fun _ k => XS.icmpNo X19.here hx rfl (hb hby k45_9.1.2.2) rfl (teq (rfl : (Int32.ofNat (48 + (mm / 10) % 10)) = (Int32.ofNat (48 + (mm / 10) % 10)))).2 k) ?_
      refine Good.back (fun _ k => XS.iconst X19.here hx rfl (hb hby k45_9.2.1.1) k) ?_
      refine Good.back (fun _ k => XS.goto X19.here hx rfl (pc0 := 144) (pc' := 148) rfl (hb hby k45_9.2.1.2) (by decide) (by decide) k) ?_
      refine Good.back (fun _ k => XS.istore X19.here hx rfl (hb hby k45_9.2.2.1) rfl (l' := (a_RIJsIJsI3 r0 p1 q2 ng mq nn ee 1)) rfl k) ?_
      show Good p e below _ (T19.setTop (mkF m 150 (a_RIJsIJsI3 r0 p1 q2 ng mq nn ee 1) []))
      exact key150 ng mq nn ee mm eN _ _ X19 N19 eh19 (hm) (hmB) (hn) (he) (hle) (hE)
  have key74 : ∀ (ng : Int32) (mq : Int64) (nn : Int32) (ee : Int32) (mm : Nat) (eN : Nat) (Tk74 : State) (lk74 : List Loc) (Xk74 : Stand p l e R_23 s m #[(.ref r0), (.int p1), (.long q2)] below meth c Tk74 lk74 0 0) (Nk74 : Fr n0 lk74) (ek74 : Tk74.heap = h0) (hm : mq.toInt = (mm : Int)) (hmB : mm ≤ 4294967296) (hn : nn.toInt = ((own_dg mm).length : Int)) (he : ee.toInt = (eN : Int)) (hle : (own_dg mm).length ≤ eN + 1 ∧ eN ≤ 2000) (hE : ∀ j, j < (own_dg mm).length → cl[eN - j]? = some (Int32.ofNat (48 + mm / 10 ^ j % 10))), Good p e below (fun o U' => ∃ v L, o = .returned v ∧ Q45 Z r0 p1 q2 cs sv ks zs cl vf pn h0 n0 v U'.heap L ∧ FrameEnd s o U' L R_23.cells R_23.slots) (Tk74.setTop (mkF m 74 (a_RIJsIJsI3 r0 p1 q2 ng mq nn ee 1) [])) := by
    intro ng mq nn ee mm eN Tk74 lk74 Xk74 Nk74 ek74 hm hmB hn he hle hE
    show Good p e below _ (Tk74.setTop (mkF m 74 (a_RIJsIJsI3 r0 p1 q2 ng mq nn ee 1) []))
    refine Good.back (fun _ k => XS.iload Xk74.here hx rfl (hb hby k45_5.1.1.1) rfl k) ?_
    refine Good.back (fun _ k => XS.ifNo Xk74.here hx rfl (hb hby k45_5.1.1.2) rfl ((if0 _ _).trans (feq (by decide : ¬ ((1 : Int32) = (0 : Int32)))).1) k) ?_
    refine Good.back (fun _ k => XS.aloadN Xk74.here hx rfl (hb hby k45_5.1.2.1) rfl rfl k) ?_
    refine Good.back (fun _ k => XS.iload Xk74.here hx rfl (hb hby k45_5.1.2.2) rfl k) ?_
    obtain ⟨cq20, kq20, q20a, q20b, q20c⟩ := isOf hZ ek74 Es
    obtain ⟨_, _, ⟨T20, L20, k20, n20⟩, -, X20, ⟨Lc20, hQ20, l20, y20, z20⟩, st20⟩ := Xk74.virtualBack hx (y := y_46) (z := y_46) hown (mvT hZ (wd hw 246 rfl)) (mvT hZ (wd hw 247 rfl)) (notFace_of_selects (args := #[]) (mvT hZ (wd hw 249 rfl))) (mvT hZ (wd hw 249 rfl)) (mvT hZ (wd hw 248 rfl)) (by decide) (backOf (W := 0) (rm46 l Z a0 hw [] r0 ee cs sv ks zs cl vf eN (Int32.ofNat (48 + mm % 10)) h0 n0 Z0 S_cs (hcs) Es Fsv Fsc Vs (hzs) S_f (hfm) (he) (by have q := hE 0 (own_dgPos mm); rw [Nat.pow_zero, Nat.div_one] at q; exact q) (own_sgn _)) hZ (wd hw 250 rfl) (wd hw 30 rfl) (by decide) (by decide)) q20a q20c (g := (mkF m 82 (a_RIJsIJsI3 r0 p1 q2 ng mq nn ee 1) [.int ee, .ref r0])) rfl (by rw [hml]; rfl) (Steps.refl _) (argsL := [(.int ee)]) (rest := []) (lenOf own_pd34 rfl) rfl (by show 2 * 0 + _ ≤ _; exact Nat.le_of_eq rfl) (hb hby k45_5.2.1.1) (fun _ _ => ⟨rfl, ek74, (by decide : 0 + 0 ≤ _), (by decide : 0 + 0 ≤ _)⟩)
    dsimp only [Pt.U, Pt.locs, Pt.cells, Pt.slots] at X20 l20 y20 z20 st20 hQ20
    subst l20 y20 z20
    obtain ⟨rfl, N20q, eh20⟩ := hQ20
    have N20 := Fr.app Nk74 N20q
    refine Good.back (fun _ k => st20.trans k) ?_
    refine Good.back (fun _ k => XS.bipush X20.here hx rfl (hb hby k45_5.2.1.2) k) ?_
    refine Good.back (fun _ k => XS.lload X20.here hx rfl (hb hby k45_5.2.2.1) rfl k) ?_
    refine Good.back (X20.ldc2Long hx hown (mvT hZ (wd hw 241 rfl)) (g := (mkF m 89 (a_RIJsIJsI3 r0 p1 q2 ng mq nn ee 1) [.long mq, .int 48, .int (Int32.ofNat (48 + mm % 10))])) rfl (hb hby k45_5.2.2.2)) ?_
    refine Good.back (fun _ k => XS.lrem X20.here hx rfl (hb hby k45_6.1.1.1) rfl (by decide) k) ?_
    refine Good.back (fun _ k => XS.l2i X20.here hx rfl (hb hby k45_6.1.1.2) rfl k) ?_
    refine Good.back (fun _ k => XS.iadd X20.here hx rfl (hb hby k45_6.1.2.1) rfl k) ?_
    refine Good.back (fun _ k => XS.i2c X20.here hx rfl (hb hby k45_6.1.2.2) rfl k) ?_
    show Good p e below _ (T20.setTop (mkF m 96 (a_RIJsIJsI3 r0 p1 q2 ng mq nn ee 1) [.int (((48 : Int32) + ((mq - (mq / (10 : Int64)) * (10 : Int64)).toInt32)).toUInt32.toUInt16.toUInt32.toInt32), .int (Int32.ofNat (48 + mm % 10))]))
    rw [show ((((48 : Int32) + ((mq - (mq / (10 : Int64)) * (10 : Int64)).toInt32)).toUInt32.toUInt16.toUInt32.toInt32) : Int32) = (Int32.ofNat (48 + mm % 10)) from own_chk hm]
    show Good p e below _ (T20.setTop (mkF m 96 (a_RIJsIJsI3 r0 p1 q2 ng mq nn ee 1) [.int (Int32.ofNat (48 + mm % 10)), .int (Int32.ofNat (48 + mm % 10))]))
    refine Good.back (fun _ k => XS.icmpNo X20.here hx rfl (hb hby k45_6.2.1.1) rfl (teq (rfl : (Int32.ofNat (48 + mm % 10)) = (Int32.ofNat (48 + mm % 10)))).2 k) ?_
    refine Good.back (fun _ k => XS.iconst X20.here hx rfl (hb hby k45_6.2.1.2) k) ?_
    refine Good.back (fun _ k => XS.goto X20.here hx rfl (pc0 := 100) (pc' := 104) rfl (hb hby k45_6.2.2.1) (by decide) (by decide) k) ?_
    refine Good.back (fun _ k => XS.istore X20.here hx rfl (hb hby k45_6.2.2.2) rfl (l' := (a_RIJsIJsI3 r0 p1 q2 ng mq nn ee 1)) rfl k) ?_
    show Good p e below _ (T20.setTop (mkF m 106 (a_RIJsIJsI3 r0 p1 q2 ng mq nn ee 1) []))
    exact key106 ng mq nn ee mm eN _ _ X20 N20 eh20 (hm) (hmB) (hn) (he) (hle) (hE)
  show Good p e below _ (s₁.setTop (mkF m 0 (a_RIJsu6 r0 p1 q2) []))
  refine Good.back (fun _ k => XS.lloadN X0.here hx rfl (hb hby k45_0.1.1.1) rfl k) ?_
  refine Good.back (fun _ k => XS.lconst X0.here hx rfl (hb hby k45_0.1.1.2) k) ?_
  refine Good.back (fun _ k => XS.lcmp X0.here hx rfl (hb hby k45_0.1.2.1) rfl k) ?_
  by_cases hc3_21 : (lcmpW q2 (0 : Int64)) < (0 : Int32)
  · refine Good.back (fun _ k => XS.ifNo X0.here hx rfl (hb hby k45_0.1.2.2) rfl ((if0 _ _).trans (tlt hc3_21).2.1) k) ?_
    refine Good.back (fun _ k => XS.iconst X0.here hx rfl (hb hby k45_0.2.1.1) k) ?_
    refine Good.back (fun _ k => XS.goto X0.here hx rfl (pc0 := 7) (pc' := 11) rfl (hb hby k45_0.2.1.2) (by decide) (by decide) k) ?_
    show Good p e below _ (s₁.setTop (mkF m 11 (a_RIJsu6 r0 p1 q2) [.int 1]))
    refine Good.back (fun _ k => XS.istore X0.here hx rfl (hb hby k45_0.2.2.2) rfl (l' := (a_RIJsIu5 r0 p1 q2 1)) rfl k) ?_
    refine Good.back (fun _ k => XS.iload X0.here hx rfl (hb hby k45_1.1.1.1) rfl k) ?_
    refine Good.back (fun _ k => XS.ifNo X0.here hx rfl (hb hby k45_1.1.1.2) rfl ((if0 _ _).trans (feq (by decide : ¬ ((1 : Int32) = (0 : Int32)))).1) k) ?_
    refine Good.back (fun _ k => XS.lloadN X0.here hx rfl (hb hby k45_1.1.2.1) rfl k) ?_
    refine Good.back (fun _ k => XS.lneg X0.here hx rfl (hb hby k45_1.1.2.2) rfl k) ?_
    refine Good.back (fun _ k => XS.goto X0.here hx rfl (pc0 := 20) (pc' := 24) rfl (hb hby k45_1.2.1.1) (by decide) (by decide) k) ?_
    obtain ⟨mm, eN, q1, q2_, q3, q4, q5, q6, q7⟩ := own_numN hc3_21 hv hp hpn hat
    show Good p e below _ (s₁.setTop (mkF m 24 (a_RIJsIu5 r0 p1 q2 1) [.long (-q2)]))
    refine Good.back (fun _ k => XS.lstore X0.here hx rfl (hb hby k45_1.2.2.1) rfl (l' := (a_RIJsIJsu3 r0 p1 q2 1 (-q2))) rfl k) ?_
    refine Good.back (fun _ k => XS.lload X0.here hx rfl (hb hby k45_1.2.2.2) rfl k) ?_
    obtain ⟨_, _, ⟨T22, L22, k22, n22⟩, -, X22, ⟨Lc22, hQ22, l22, y22, z22⟩, st22⟩ := Jvm.LawKit.callS X0 hx (y := y_47) hown (mvT hZ (wd hw 238 rfl)) (mvT hZ (wd hw 239 rfl)) (mvT hZ (wd hw 236 rfl)) (mvT hZ (wd hw 240 rfl)) (by decide) (backOf (W := 0) (rm44 l Z a0 hw [] (-q2) mm h0 n0 Z0 (q1) (q2_)) hZ (wd hw 240 rfl) (wd hw 236 rfl) (by decide) (by decide)) (g := (mkF m 28 (a_RIJsIJsu3 r0 p1 q2 1 (-q2)) [.long (-q2)])) rfl (by rw [hml]; rfl) (argsL := [(.long (-q2))]) (rest := []) (lenOf own_pd11 rfl) rfl (by show 2 * 0 + _ ≤ _; exact Nat.le_of_eq rfl) (hb hby k45_2.1.1.1) (fun _ _ => ⟨rfl, e0, (by decide : 0 + 0 ≤ _), (by decide : 0 + 0 ≤ _)⟩)
    dsimp only [Pt.U, Pt.locs, Pt.cells, Pt.slots] at X22 l22 y22 z22 st22 hQ22
    subst l22 y22 z22
    obtain ⟨rfl, N22q, eh22⟩ := hQ22
    have N22 := Fr.app N0 N22q
    refine Good.back st22 ?_
    refine Good.back (fun _ k => XS.istore X22.here hx rfl (hb hby k45_2.1.1.2) rfl (l' := (a_RIJsIJsIuu r0 p1 q2 1 (-q2) (own_dl (-q2)))) rfl k) ?_
    refine Good.back (fun _ k => XS.iloadN X22.here hx rfl (hb hby k45_2.1.2.1) rfl k) ?_
    refine Good.back (fun _ k => XS.iload X22.here hx rfl (hb hby k45_2.1.2.2) rfl k) ?_
    refine Good.back (fun _ k => XS.ifNo X22.here hx rfl (hb hby k45_2.2.1.1) rfl ((if0 _ _).trans (feq (by decide : ¬ ((1 : Int32) = (0 : Int32)))).1) k) ?_
    refine Good.back (fun _ k => XS.iconst X22.here hx rfl (hb hby k45_2.2.1.2) k) ?_
    show Good p e below _ (T22.setTop (mkF m 40 (a_RIJsIJsIuu r0 p1 q2 1 (-q2) (own_dl (-q2))) [.int 1, .int p1]))
    refine Good.back (fun _ k => XS.goto X22.here hx rfl (pc0 := 40) (pc' := 44) rfl (hb hby k45_2.2.2.1) (by decide) (by decide) k) ?_
    refine Good.back (fun _ k => XS.iadd X22.here hx rfl (hb hby k45_3.1.1.1) rfl k) ?_
    refine Good.back (fun _ k => XS.iload X22.here hx rfl (hb hby k45_3.1.1.2) rfl k) ?_
    refine Good.back (fun _ k => XS.iadd X22.here hx rfl (hb hby k45_3.1.2.1) rfl k) ?_
    refine Good.back (fun _ k => XS.iconst X22.here hx rfl (hb hby k45_3.1.2.2) k) ?_
    refine Good.back (fun _ k => XS.isub X22.here hx rfl (hb hby k45_3.2.1.1) rfl k) ?_
    show Good p e below _ (T22.setTop (mkF m 50 (a_RIJsIJsIuu r0 p1 q2 1 (-q2) (own_dl (-q2))) [.int (((p1 + (1 : Int32)) + (own_dl (-q2))) - (1 : Int32))]))
    refine Good.back (fun _ k => XS.istore X22.here hx rfl (hb hby k45_3.2.1.2) rfl (l' := (a_RIJsIJsIIu r0 p1 q2 1 (-q2) (own_dl (-q2)) (((p1 + (1 : Int32)) + (own_dl (-q2))) - (1 : Int32)))) rfl k) ?_
    refine Good.back (fun _ k => XS.iload X22.here hx rfl (hb hby k45_3.2.2.1) rfl k) ?_
    refine Good.back (fun _ k => XS.ifNo X22.here hx rfl (hb hby k45_3.2.2.2) rfl ((if0 _ _).trans (feq (by decide : ¬ ((1 : Int32) = (0 : Int32)))).1) k) ?_
    refine Good.back (fun _ k => XS.aloadN X22.here hx rfl (hb hby k45_4.1.1.1) rfl rfl k) ?_
    refine Good.back (fun _ k => XS.iloadN X22.here hx rfl (hb hby k45_4.1.1.2) rfl k) ?_
    obtain ⟨cq23, kq23, q23a, q23b, q23c⟩ := isOf hZ eh22 Es
    obtain ⟨_, _, ⟨T23, L23, k23, n23⟩, -, X23, ⟨Lc23, hQ23, l23, y23, z23⟩, st23⟩ := X22.virtualBack hx (y := y_46) (z := y_46) hown (mvT hZ (wd hw 246 rfl)) (mvT hZ (wd hw 247 rfl)) (notFace_of_selects (args := #[]) (mvT hZ (wd hw 249 rfl))) (mvT hZ (wd hw 249 rfl)) (mvT hZ (wd hw 248 rfl)) (by decide) (backOf (W := 0) (rm46 l Z a0 hw [] r0 p1 cs sv ks zs cl vf pn (45 : Int32) h0 n0 Z0 S_cs (hcs) Es Fsv Fsc Vs (hzs) S_f (hfm) (hp) (q7) (by decide)) hZ (wd hw 250 rfl) (wd hw 30 rfl) (by decide) (by decide)) q23a q23c (g := (mkF m 59 (a_RIJsIJsIIu r0 p1 q2 1 (-q2) (own_dl (-q2)) (((p1 + (1 : Int32)) + (own_dl (-q2))) - (1 : Int32))) [.int p1, .ref r0])) rfl (by rw [hml]; rfl) (Steps.refl _) (argsL := [(.int p1)]) (rest := []) (lenOf own_pd34 rfl) rfl (by show 2 * 0 + _ ≤ _; exact Nat.le_of_eq rfl) (hb hby k45_4.1.2.1) (fun _ _ => ⟨rfl, eh22, (by decide : 0 + 0 ≤ _), (by decide : 0 + 0 ≤ _)⟩)
    dsimp only [Pt.U, Pt.locs, Pt.cells, Pt.slots] at X23 l23 y23 z23 st23 hQ23
    subst l23 y23 z23
    obtain ⟨rfl, N23q, eh23⟩ := hQ23
    have N23 := Fr.app N22 N23q
    refine Good.back (fun _ k => st23.trans k) ?_
    refine Good.back (fun _ k => XS.bipush X23.here hx rfl (hb hby k45_4.1.2.2) k) ?_
    refine Good.back (fun _ k => XS.icmpNo X23.here hx rfl (hb hby k45_4.2.1.1) rfl (teq (by decide : ((45 : Int32) = (45 : Int32)))).2 k) ?_
    refine Good.back (fun _ k => XS.iconst X23.here hx rfl (hb hby k45_4.2.1.2) k) ?_
    refine Good.back (fun _ k => XS.goto X23.here hx rfl (pc0 := 68) (pc' := 72) rfl (hb hby k45_4.2.2.1) (by decide) (by decide) k) ?_
    refine Good.back (fun _ k => XS.istore X23.here hx rfl (hb hby k45_4.2.2.2) rfl (l' := (a_RIJsIJsI3 r0 p1 q2 1 (-q2) (own_dl (-q2)) (((p1 + (1 : Int32)) + (own_dl (-q2))) - (1 : Int32)) 1)) rfl k) ?_
    show Good p e below _ (T23.setTop (mkF m 74 (a_RIJsIJsI3 r0 p1 q2 1 (-q2) (own_dl (-q2)) (((p1 + (1 : Int32)) + (own_dl (-q2))) - (1 : Int32)) 1) []))
    exact key74 (1 : Int32) (-q2) (own_dl (-q2)) (((p1 + (1 : Int32)) + (own_dl (-q2))) - (1 : Int32)) _ _ _ _ X23 N23 eh23 (q1) (q2_) (q3) (q4) (q5) (q6)
  · refine Good.back (fun _ k => XS.ifYes X0.here hx rfl (pc0 := 3) (pc' := 10) rfl (hb hby k45_0.1.2.2) rfl ((if0 _ _).trans (flt hc3_21).2.1) (by decide) (by decide) k) ?_
    refine Good.back (fun _ k => XS.iconst X0.here hx rfl (hb hby k45_0.2.2.1) k) ?_
    refine Good.back (fun _ k => XS.istore X0.here hx rfl (hb hby k45_0.2.2.2) rfl (l' := (a_RIJsIu5 r0 p1 q2 0)) rfl k) ?_
    show Good p e below _ (s₁.setTop (mkF m 13 (a_RIJsIu5 r0 p1 q2 0) []))
    refine Good.back (fun _ k => XS.iload X0.here hx rfl (hb hby k45_1.1.1.1) rfl k) ?_
    refine Good.back (fun _ k => XS.ifYes X0.here hx rfl (pc0 := 15) (pc' := 23) rfl (hb hby k45_1.1.1.2) rfl ((if0 _ _).trans (teq (by decide : ((0 : Int32) = (0 : Int32)))).1) (by decide) (by decide) k) ?_
    refine Good.back (fun _ k => XS.lloadN X0.here hx rfl (hb hby k45_1.2.1.2) rfl k) ?_
    obtain ⟨mm, eN, q1, q2_, q3, q4, q5, q6⟩ := own_numP hc3_21 hv hp hpn hat
    show Good p e below _ (s₁.setTop (mkF m 24 (a_RIJsIu5 r0 p1 q2 0) [.long q2]))
    refine Good.back (fun _ k => XS.lstore X0.here hx rfl (hb hby k45_1.2.2.1) rfl (l' := (a_RIJsIJsu3 r0 p1 q2 0 q2)) rfl k) ?_
    refine Good.back (fun _ k => XS.lload X0.here hx rfl (hb hby k45_1.2.2.2) rfl k) ?_
    obtain ⟨_, _, ⟨T24, L24, k24, n24⟩, -, X24, ⟨Lc24, hQ24, l24, y24, z24⟩, st24⟩ := Jvm.LawKit.callS X0 hx (y := y_47) hown (mvT hZ (wd hw 238 rfl)) (mvT hZ (wd hw 239 rfl)) (mvT hZ (wd hw 236 rfl)) (mvT hZ (wd hw 240 rfl)) (by decide) (backOf (W := 0) (rm44 l Z a0 hw [] q2 mm h0 n0 Z0 (q1) (q2_)) hZ (wd hw 240 rfl) (wd hw 236 rfl) (by decide) (by decide)) (g := (mkF m 28 (a_RIJsIJsu3 r0 p1 q2 0 q2) [.long q2])) rfl (by rw [hml]; rfl) (argsL := [(.long q2)]) (rest := []) (lenOf own_pd11 rfl) rfl (by show 2 * 0 + _ ≤ _; exact Nat.le_of_eq rfl) (hb hby k45_2.1.1.1) (fun _ _ => ⟨rfl, e0, (by decide : 0 + 0 ≤ _), (by decide : 0 + 0 ≤ _)⟩)
    dsimp only [Pt.U, Pt.locs, Pt.cells, Pt.slots] at X24 l24 y24 z24 st24 hQ24
    subst l24 y24 z24
    obtain ⟨rfl, N24q, eh24⟩ := hQ24
    have N24 := Fr.app N0 N24q
    refine Good.back st24 ?_
    refine Good.back (fun _ k => XS.istore X24.here hx rfl (hb hby k45_2.1.1.2) rfl (l' := (a_RIJsIJsIuu r0 p1 q2 0 q2 (own_dl q2))) rfl k) ?_
    refine Good.back (fun _ k => XS.iloadN X24.here hx rfl (hb hby k45_2.1.2.1) rfl k) ?_
    refine Good.back (fun _ k => XS.iload X24.here hx rfl (hb hby k45_2.1.2.2) rfl k) ?_
    refine Good.back (fun _ k => XS.ifYes X24.here hx rfl (pc0 := 36) (pc' := 43) rfl (hb hby k45_2.2.1.1) rfl ((if0 _ _).trans (teq (by decide : ((0 : Int32) = (0 : Int32)))).1) (by decide) (by decide) k) ?_
    refine Good.back (fun _ k => XS.iconst X24.here hx rfl (hb hby k45_2.2.2.2) k) ?_
    show Good p e below _ (T24.setTop (mkF m 44 (a_RIJsIJsIuu r0 p1 q2 0 q2 (own_dl q2)) [.int 0, .int p1]))
    refine Good.back (fun _ k => XS.iadd X24.here hx rfl (hb hby k45_3.1.1.1) rfl k) ?_
    refine Good.back (fun _ k => XS.iload X24.here hx rfl (hb hby k45_3.1.1.2) rfl k) ?_
    refine Good.back (fun _ k => XS.iadd X24.here hx rfl (hb hby k45_3.1.2.1) rfl k) ?_
    refine Good.back (fun _ k => XS.iconst X24.here hx rfl (hb hby k45_3.1.2.2) k) ?_
    refine Good.back (fun _ k => XS.isub X24.here hx rfl (hb hby k45_3.2.1.1) rfl k) ?_
    refine Good.back (fun _ k => XS.istore X24.here hx rfl (hb hby k45_3.2.1.2) rfl (l' := (a_RIJsIJsIIu r0 p1 q2 0 q2 (own_dl q2) (((p1 + (0 : Int32)) + (own_dl q2)) - (1 : Int32)))) rfl k) ?_
    show Good p e below _ (T24.setTop (mkF m 52 (a_RIJsIJsIIu r0 p1 q2 0 q2 (own_dl q2) (((p1 + (0 : Int32)) + (own_dl q2)) - (1 : Int32))) []))
    refine Good.back (fun _ k => XS.iload X24.here hx rfl (hb hby k45_3.2.2.1) rfl k) ?_
    refine Good.back (fun _ k => XS.ifYes X24.here hx rfl (pc0 := 54) (pc' := 67) rfl (hb hby k45_3.2.2.2) rfl ((if0 _ _).trans (teq (by decide : ((0 : Int32) = (0 : Int32)))).1) (by decide) (by decide) k) ?_
    refine Good.back (fun _ k => XS.iconst X24.here hx rfl (hb hby k45_4.2.1.2) k) ?_
    refine Good.back (fun _ k => XS.goto X24.here hx rfl (pc0 := 68) (pc' := 72) rfl (hb hby k45_4.2.2.1) (by decide) (by decide) k) ?_
    refine Good.back (fun _ k => XS.istore X24.here hx rfl (hb hby k45_4.2.2.2) rfl (l' := (a_RIJsIJsI3 r0 p1 q2 0 q2 (own_dl q2) (((p1 + (0 : Int32)) + (own_dl q2)) - (1 : Int32)) 1)) rfl k) ?_
    show Good p e below _ (T24.setTop (mkF m 74 (a_RIJsIJsI3 r0 p1 q2 0 q2 (own_dl q2) (((p1 + (0 : Int32)) + (own_dl q2)) - (1 : Int32)) 1) []))
    exact key74 (0 : Int32) q2 (own_dl q2) (((p1 + (0 : Int32)) + (own_dl q2)) - (1 : Int32)) _ _ _ _ X24 N24 eh24 (q1) (q2_) (q3) (q4) (q5) (q6)
theorem own_exaArr {Z : State} {h : Heap} {x : Addr} {a0 : Array Value} (E : Exa Z h x "[B") (w : (Cond.arrayClass .byte).before a0 Z = true) : ∃ c : Cell, h[x]? = some c ∧ Z.isArrayOf c .byte := by
  obtain ⟨cell, k, h1, h2, h3, h4, -⟩ := E
  obtain ⟨c, k', comp, g1, g2, g3⟩ := Cond.arrayClass_spec w
  have e : ("[" ++ FieldType.toString .byte) = "[B" := by decide
  rw [e] at g1
  cases h2.symm.trans g1
  exact ⟨cell, h1, And.intro (fun q hq => by rw [hq] at h4; cases h4) ⟨k', g2, comp, g3⟩⟩
theorem own_allE {args : Array Value} {s : State} {t : Term} {c : Jvm.Cond} {a : Addr} {cl : Cell} (ev : t.eval args s none [] s = some (.ref a)) (ha : s.arrayAt? a = some cl) (h : (Cond.all t c).value args s none s [] = some true) : ∀ j, j < cl.slots.size → c.value args s none s [j] = some true := by
  intro j hj
  simp only [Cond.value, ev, ha] at h
  exact Example.SumArray.foldl_all _ _ (fun _ => rfl) (fun x _ hx => by
    cases x with
    | none => rfl
    | some b => cases b <;> first | rfl | exact absurd rfl hx) cl.slots.size h j hj
theorem own_elemE {args : Array Value} {s : State} {C n : String} {a : Addr} {cl : Cell} {v : Value} {j : Nat} (ev : (Term.static C n "[B").eval args s none [] s = some (.ref a)) (hc : s.heap[a]? = some cl) (lt : j < 100) (h : (Term.elem (.static C n "[B") (.index 0)).eval args s none [j] s = some v) : cl.slots[j]? = some v := by
  have ev' : (Term.static C n "[B").eval args s none [j] s = some (.ref a) := by
    simp only [Term.eval] at ev ⊢
    exact ev
  have n1 : (Int32.ofNat j).toNatClampNeg = j := by
    have q := own_nat (z := Int32.ofNat j) (by rw [Int32.toInt_ofNat_of_lt (by omega)]; omega)
    rw [Int32.toInt_ofNat_of_lt (by omega)] at q
    omega
  have e := (elem_in (j := Int32.ofNat j) h ev' rfl hc).2
  rw [n1] at e
  exact e
theorem own_addF {args : Array Value} {first s : State} {o : Option Outcome} {idx : List Nat} {a b : Term} {x y : Int32} (ha : a.eval args first o idx s = some (.int x)) (hb : b.eval args first o idx s = some (.int y)) : (Term.add a b).eval args first o idx s = some (.int (x + y)) := by simp [Term.eval, ha, hb]
theorem own_tbl1 : ∀ j : Nat, j < 100 → ((48 : Int32) + (Int32.ofNat j % 10)) = Int32.ofNat (48 + j % 10) := by decide +kernel
theorem own_tbl2 : ∀ j : Nat, j < 100 → ((48 : Int32) + (Int32.ofNat j / 10)) = Int32.ofNat (48 + j / 10) := by decide +kernel
theorem own_tblV {args : Array Value} {s : State} {n : String} {d : Addr} {a0 : Array Value} {tm : Term} {vs : List Value} {fn : Nat → Int32} (hfit : Fit s) (w : (Cond.arrayClass .byte).before a0 s = true) (ev : (Term.static "java/lang/Integer" n "[B").eval args s none [] s = some (.ref d)) (hx : (Cond.exactly (.static "java/lang/Integer" n "[B") "[B").value args s none s [] = some true)
    (hl : (Cond.eq (.length (.static "java/lang/Integer" n "[B")) (.int 100)).value args s none s [] = some true) (ha : (Cond.all (.static "java/lang/Integer" n "[B") (.eq (.elem (.static "java/lang/Integer" n "[B") (.index 0)) tm)).value args s none s [] = some true) (ht : ∀ j, j < 100 → tm.eval args s none [j] s = some (.int (fn j))) (hv : ∀ j (_ : j < 100) (z : Value), vs.getD j z = .int (fn j)) : ∃ k : ClassId, Arv s s.heap d k .byte (100 : Int32) vs (.int 0) := by
  obtain ⟨cl, c1, c2⟩ := own_exaArr (Exa.start ev hx) w
  have hl' := own_eqV hl rfl
  obtain ⟨d', D', ev', at', -⟩ := Term.length_spec hl'
  cases ev.symm.trans ev'
  obtain ⟨q1, q2, -, -⟩ := State.arrayAt?_spec at'
  cases c1.symm.trans q1
  have A : Arr s s.heap d cl .byte := ⟨c1, c2, q2⟩
  obtain ⟨lt, len⟩ := own_len A ev hl'
  have S : cl.slots.size = 100 := by
    have e := congrArg Int32.toInt len
    rw [show cl.slots.size.toInt32 = Int32.ofNat cl.slots.size from rfl, Int32.toInt_ofNat_of_lt lt, show (100 : Int32).toInt = 100 from rfl] at e
    omega
  have H : ∀ j, j < cl.slots.size → cl.slots[j]? = some (.int (fn j)) := fun j hj => own_elemE ev c1 (by omega) (own_eqV (own_allE ev at' ha j hj) (ht j (by omega)))
  refine ⟨cl.cls, cl, A, rfl, S, by decide, fun j hj => by rw [hv j (by omega)]; exact H j hj, fun j hj => ?_⟩
  rw [hv j (by omega)]
  have e1 : (Nat.toInt32 j).toNatClampNeg = j := by simp only [Int32.toNatClampNeg, len_toInt (Nat.lt_trans hj lt)]; rfl
  exact elem_fits (j := Nat.toInt32 j) hfit A (idx_in hj lt) (by rw [e1]; exact H j hj)
theorem own_pN {x : Int32} {l : Nat} (h : x.toInt = (l : Int)) (hl : l ≤ 11) : (((8 : Int32) + x) + (16 : Int32)).toInt = ((24 + l : Nat) : Int) := by
  have a := c_iadd 8 x
  have r := rng32 ((8 : Int32) + x)
  have b := c_iadd ((8 : Int32) + x) 16
  have q := rng32 (((8 : Int32) + x) + (16 : Int32))
  have e1 : (8 : Int32).toInt = 8 := rfl
  have e2 : (16 : Int32).toInt = 16 := rfl
  omega
theorem own_pL {x : Int32} {l : Nat} (h : x.toInt = ((24 + l : Nat) : Int)) (hl : l ≤ 11) : (((x + (1 : Int32)) + (7 : Int32)) + (15 : Int32)).toInt = ((47 + l : Nat) : Int) := by
  have q1 := own_addI h (show (1 : Int32).toInt = ((1 : Nat) : Int) from rfl) (by omega)
  have q2 := own_addI q1 (show (7 : Int32).toInt = ((7 : Nat) : Int) from rfl) (by omega)
  have q3 := own_addI q2 (show (15 : Int32).toInt = ((15 : Nat) : Int) from rfl) (by omega)
  omega
theorem own_pT {x y : Int32} {l r : Nat} (h : x.toInt = ((47 + l : Nat) : Int)) (hy : y.toInt = (r : Int)) (hl : l ≤ 11) (hr : r ≤ 11) : ((x + y) + (9 : Int32)).toInt = ((56 + l + r : Nat) : Int) := by
  have q1 := own_addI h hy (by omega)
  have q2 := own_addI q1 (show (9 : Int32).toInt = ((9 : Nat) : Int) from rfl) (by omega)
  omega
theorem own_pd35 : parseMethodDescriptor "(J)Ljava/lang/String;" = some ⟨[.long], some (.object "java/lang/String")⟩ := by decide +kernel
theorem own_pd36 : parseMethodDescriptor "(Ljava/lang/String;IJ)Z" = some ⟨[(.object "java/lang/String"), .int, .long], some .boolean⟩ := by decide +kernel
theorem own_ef_0 (m : MethodId) (x0 : Int32) (x1 : Int32) (x2 : Int32) (x3 : Int32) (x4 : Int32) : entryFrame m #[(.int x0), (.int x1), (.int x2), (.int x3), (.int x4)] maxLocals = mkF m 0 #[.val (.int x0), .val (.int x1), .val (.int x2), .val (.int x3), .val (.int x4), .unset, .unset, .unset, .unset, .unset, .unset, .unset, .unset, .unset, .unset, .unset, .unset] [] := by first | (simp [entryFrame, mkF, argsToLocals, Value.category, maxLocals]; done) | rfl
def Q0 (Z : State) (p0 : Int32) (p1 : Int32) (p2 : Int32) (p3 : Int32) (p4 : Int32) (cs : Int32) (d1 : Addr) (d2 : Addr) (kd1 : ClassId) (kd2 : ClassId) (vf : Value) (h0 : Heap) (n0 : Nat) (v : Option Value) (h : Heap) (L : List Loc) : Prop := v = some (.int 1) ∧ Fr n0 L
set_option maxRecDepth 65536 in
set_option maxHeartbeats 40000000 in
theorem rm0 (l : Launch) (Z : State) (a0 : Array Value) (hw : ∀ d ∈ tables_1, d.before a0 Z = true) (ws : List Jvm.Cond) (p0 : Int32) (p1 : Int32) (p2 : Int32) (p3 : Int32) (p4 : Int32) (cs : Int32) (d1 : Addr) (d2 : Addr) (kd1 : ClassId) (kd2 : ClassId) (vf : Value) (h0 : Heap) (n0 : Nat) (Z0 : n0 ≤ h0.size) (S_cs : Sta Z h0 "java/lang/String" "COMPACT_STRINGS" "Z" (.int cs)) (hcs : ¬ (cs = (0 : Int32))) (S_d1 : Sta Z h0 "java/lang/Integer" "DigitOnes" "[B" (.ref d1)) (S_d2 : Sta Z h0 "java/lang/Integer" "DigitTens" "[B" (.ref d2)) (V_d1 : Arv Z h0 d1 kd1 .byte (100 : Int32) own_ones (.int 0)) (V_d2 : Arv Z h0 d2 kd2 .byte (100 : Int32) own_tens (.int 0)) (S_f : Sta Z h0 "jdk/internal/util/Preconditions" "SIOOBE_FORMATTER" "Ljava/util/function/BiFunction;" vf) (hfm : vf = .null ∨ ∃ a : Addr, vf = .ref a) :
    MetFree l x (head1 (Jvm.Cond.code x code maxLocals ret :: ws) room_1) (fun a U => a = #[(.int p0), (.int p1), (.int p2), (.int p3), (.int p4)] ∧ Z.Warmed39 U.vm ∧ U.heap = h0 ∧ CHv Z own_EL U.vm h0) (fun _ _ _ _ _ => True) (fun _ U o U' => ∃ v L, o = .returned v ∧ Q0 Z p0 p1 p2 p3 p4 cs d1 d2 kd1 kd2 vf h0 n0 v U'.heap L ∧ CHr Z own_EL U.vm U.heap U'.vm U'.heap ∧ ReturnedEndW U o U' L 40 6976) := by
  refine MetFree.of_bodySF (plainFor_of_name own_pn10) hisR ?_
  intro p e s m args below meth c s₁ Bd hml0 hP hK
  obtain ⟨rfl, hZ, hh, HV⟩ := hP
  have hx := Bd.exec
  have hby := Bd.bytes
  have hml : c.maxLocals = 17 := hml0
  have hown : s.vm.findClass "com/example/liken/liken/cli/IndexSummaryIndexedPinLaw" = some m.cls := findClass_of_methodNamed Bd.named
  have hnm := (name_of_methodNamed Bd.named Bd.method).1
  have X0 : Stand p l e room_1 s m #[(.int p0), (.int p1), (.int p2), (.int p3), (.int p4)] below meth c s₁ [] 0 0 := Stand.of_body Bd
  have e0 : s₁.heap = h0 := by rw [← hh, Bd.state]; rfl
  have N0 := Fr.nil n0
  have X0c : Stand p l e room_1 (s.setVm s.vm) m #[(.int p0), (.int p1), (.int p2), (.int p3), (.int p4)] below meth c s₁ [] 0 0 := X0
  have hS0 : s.Since s.vm 0 := (State.WarmedH.refl s).since 0
  have hk0 : 0 ≤ h0.size := Nat.zero_le _
  have hZ0 : Z.Warmed39 (s.setVm s.vm).vm := hZ
  have hown0 : (s.setVm s.vm).vm.findClass "com/example/liken/liken/cli/IndexSummaryIndexedPinLaw" = some m.cls := hown
  have C0 : CHr Z own_EL s.vm h0 s.vm h0 := CHr.refl HV
  show Good p e below (fun o U' => ∃ v L, o = .returned v ∧ Q0 Z p0 p1 p2 p3 p4 cs d1 d2 kd1 kd2 vf h0 n0 v U'.heap L ∧ CHr Z own_EL s.vm s.heap U'.vm U'.heap ∧ ReturnedEndW s o U' L 40 6976) _
  refine Good.back (S' := s₁.setTop (mkF m 0 #[.val (.int p0), .val (.int p1), .val (.int p2), .val (.int p3), .val (.int p4), .unset, .unset, .unset, .unset, .unset, .unset, .unset, .unset, .unset, .unset, .unset, .unset] [])) (fun t k => castTop (own_ef_0 m p0 p1 p2 p3 p4) k) ?_
  show Good p e below _ (s₁.setTop (mkF m 0 (a_I5u12 p0 p1 p2 p3 p4) []))
  refine Good.back (fun _ k => XS.iload X0c.here hx rfl (hb hby at_0) rfl k) ?_
  refine Good.back (X0c.ldcInt hx hown0 (mvT hZ0 (wd hw 0 rfl)) (g := (mkF m 2 (a_I5u12 p0 p1 p2 p3 p4) [.int p4])) rfl (hb hby at_2)) ?_
  refine Good.back (fun _ k => XS.iand X0c.here hx rfl (hb hby at_4) rfl k) ?_
  refine Good.back (fun _ k => XS.iconst X0c.here hx rfl (hb hby at_5) k) ?_
  show Good p e below _ (s₁.setTop (mkF m 6 (a_I5u12 p0 p1 p2 p3 p4) [.int 3, .int (p4 &&& (2147483647 : Int32))]))
  refine Good.back (fun _ k => iremM (g := (mkF m 6 (a_I5u12 p0 p1 p2 p3 p4) [.int 3, .int (p4 &&& (2147483647 : Int32))])) X0c hx rfl (hb hby at_6) rfl (by decide) k) ?_
  show Good p e below _ (s₁.setTop (mkF m 7 (a_I5u12 p0 p1 p2 p3 p4) [.int ((p4 &&& (2147483647 : Int32)) % (3 : Int32))]))
  refine Good.back (fun _ k => XS.istore X0c.here hx rfl (hb hby at_7) rfl (l' := (a_I6u11 p0 p1 p2 p3 p4 ((p4 &&& (2147483647 : Int32)) % (3 : Int32)))) rfl k) ?_
  obtain ⟨T1, h1, X1, e1, E1, A1, D1, -, st1⟩ := newO X0c hx hZ0 hown0 (wd hw 1 rfl) (wd hw 2 rfl) (wd hw 3 rfl) e0 (g := (mkF m 9 (a_I6u11 p0 p1 p2 p3 p4 ((p4 &&& (2147483647 : Int32)) % (3 : Int32))) [])) rfl (hb hby at_9) (by decide) (by decide)
  obtain ⟨b1, g1⟩ : ∃ z, z = h0.size := ⟨_, rfl⟩
  rw [← g1] at A1 D1 st1
  refine Good.back st1 ?_
  have g_b1 : n0 ≤ b1 := Nat.le_trans Z0 (Nat.le_of_eq g1.symm)
  have Z2 : n0 ≤ h1.size := Nat.le_trans Z0 E1.1
  have hk3 := Nat.le_trans hk0 E1.1
  have f_4 : Exa Z h1 b1 "com/example/liken/liken/cli/IndexSummary" := A1
  have f_5 : Fld Z h1 b1 "com/example/liken/liken/cli/IndexSummary" "fragments" "J" (.long 0) := D1 (Or.inl (wd hw 93 rfl)) (ty := .long) (by decide)
  have f_6 : Fld Z h1 b1 "com/example/liken/liken/cli/IndexSummary" "files" "I" (.int 0) := D1 (Or.inl (wd hw 144 rfl)) (ty := .int) (by decide)
  have f_7 : Fld Z h1 b1 "com/example/liken/liken/cli/IndexSummary" "skipped" "I" (.int 0) := D1 (Or.inl (wd hw 163 rfl)) (ty := .int) (by decide)
  have f_8 : Fld Z h1 b1 "com/example/liken/liken/cli/IndexSummary" "unreadable" "I" (.int 0) := D1 (Or.inl (wd hw 165 rfl)) (ty := .int) (by decide)
  have f_9 : Fld Z h1 b1 "com/example/liken/liken/cli/IndexSummary" "lines" "J" (.long 0) := D1 (Or.inl (wd hw 172 rfl)) (ty := .long) (by decide)
  refine Good.back (fun _ k => XS.dup X1.here hx rfl (hb hby at_12) rfl rfl k) ?_
  obtain ⟨_, _, ⟨T10, L10, k10, n10⟩, -, X10, ⟨Lc10, hQ10, l10, y10, z10⟩, st10⟩ := X1.specialBack hx (y := y_39) rfl hown0 (mvT hZ0 (wd hw 4 rfl)) (mvT hZ0 (wd hw 5 rfl)) (mvT hZ0 (wd hw 6 rfl)) (by decide) (backOf (W := 1) (rm1 l Z a0 hw [] b1  h1 n0 Z2 ) hZ0 (wd hw 6 rfl) (wd hw 3 rfl) (by decide) (by decide)) (g := (mkF m 13 (a_I6u11 p0 p1 p2 p3 p4 ((p4 &&& (2147483647 : Int32)) % (3 : Int32))) [.ref b1, .ref b1])) rfl (by rw [hml]; rfl) (Steps.refl _) (a := b1) (argsL := []) (rest := [(.ref b1)]) (lenOf own_pd25 rfl) rfl (by show 2 * 0 + _ ≤ _; exact Nat.le_of_eq rfl) (hb hby at_13) (fun _ _ => ⟨rfl, e1, (by decide : 1 + 0 ≤ _), (by decide : 5 + 0 ≤ _)⟩)
  dsimp only [Pt.U, Pt.locs, Pt.cells, Pt.slots] at X10 l10 y10 z10 st10 hQ10
  subst l10 y10 z10
  obtain ⟨rfl, N10q, eh10⟩ := hQ10
  have N10 := Fr.app N0 N10q
  refine Good.back (fun _ k => st10.trans k) ?_
  refine Good.back (fun _ k => XS.astore X10.here hx rfl (hb hby at_16) rfl rfl (l' := (a_I6Ru10 p0 p1 p2 p3 p4 ((p4 &&& (2147483647 : Int32)) % (3 : Int32)) b1)) rfl k) ?_
  refine Good.back (fun _ k => XS.lconst X10.here hx rfl (hb hby at_18) k) ?_
  refine Good.back (fun _ k => XS.lstore X10.here hx rfl (hb hby at_19) rfl (l' := (a_I6RJsu8 p0 p1 p2 p3 p4 ((p4 &&& (2147483647 : Int32)) % (3 : Int32)) b1 0)) rfl k) ?_
  refine Good.back (fun _ k => XS.lconst X10.here hx rfl (hb hby at_21) k) ?_
  refine Good.back (fun _ k => XS.lstore X10.here hx rfl (hb hby at_22) rfl (l' := (a_I6RJsJsu6 p0 p1 p2 p3 p4 ((p4 &&& (2147483647 : Int32)) % (3 : Int32)) b1 0 0)) rfl k) ?_
  show Good p e below _ (T10.setTop (mkF m 24 (a_I6RJsJsu6 p0 p1 p2 p3 p4 ((p4 &&& (2147483647 : Int32)) % (3 : Int32)) b1 0 0) []))
  have key78 : ∀ (fq : Int64) (lq : Int64) (cn : Int32) (Hk78 : Heap) (Tk78 : State) (lk78 : List Loc) (Xk78 : Stand p l e room_1 (s.setVm s.vm) m #[(.int p0), (.int p1), (.int p2), (.int p3), (.int p4)] below meth c Tk78 lk78 1 5) (Nk78 : Fr n0 lk78) (ek78 : Tk78.heap = Hk78) (Zk78 : n0 ≤ Hk78.size) (Ck78 : CHr Z own_EL s.vm h0 s.vm Hk78) (Ek : Exa Z Hk78 b1 "com/example/liken/liken/cli/IndexSummary") (Fk0 : Fld Z Hk78 b1 "com/example/liken/liken/cli/IndexSummary" "fragments" "J" (.long fq)) (Fk1 : Fld Z Hk78 b1 "com/example/liken/liken/cli/IndexSummary" "lines" "J" (.long lq)) (Fk2 : Fld Z Hk78 b1 "com/example/liken/liken/cli/IndexSummary" "files" "I" (.int cn)) (Fk3 : Fld Z Hk78 b1 "com/example/liken/liken/cli/IndexSummary" "skipped" "I" (.int 0)) (Fk4 : Fld Z Hk78 b1 "com/example/liken/liken/cli/IndexSummary" "unreadable" "I" (.int 0)) (S_csk : Sta Z Hk78 "java/lang/String" "COMPACT_STRINGS" "Z" (.int cs)) (S_d1k : Sta Z Hk78 "java/lang/Integer" "DigitOnes" "[B" (.ref d1)) (S_d2k : Sta Z Hk78 "java/lang/Integer" "DigitTens" "[B" (.ref d2)) (V_d1k : Arv Z Hk78 d1 kd1 .byte (100 : Int32) own_ones (.int 0)) (V_d2k : Arv Z Hk78 d2 kd2 .byte (100 : Int32) own_tens (.int 0)) (S_fk : Sta Z Hk78 "jdk/internal/util/Preconditions" "SIOOBE_FORMATTER" "Ljava/util/function/BiFunction;" vf) (hvf : -4294967296 ≤ fq.toInt ∧ fq.toInt ≤ 4294967296) (hvl : -4294967296 ≤ lq.toInt ∧ lq.toInt ≤ 4294967296) (hd_ : 0 ≤ cn.toInt ∧ cn.toInt ≤ 9), Good p e below (fun o U' => ∃ v L, o = .returned v ∧ Q0 Z p0 p1 p2 p3 p4 cs d1 d2 kd1 kd2 vf h0 n0 v U'.heap L ∧ CHr Z own_EL s.vm s.heap U'.vm U'.heap ∧ ReturnedEndW s o U' L 40 6976) (Tk78.setTop (mkF m 78 (a_I6RJsJsu6 p0 p1 p2 p3 p4 cn b1 fq lq) [])) := by
    intro fq lq cn Hk78 Tk78 lk78 Xk78 Nk78 ek78 Zk78 Ck78 Ek Fk0 Fk1 Fk2 Fk3 Fk4 S_csk S_d1k S_d2k V_d1k V_d2k S_fk hvf hvl hd_
    show Good p e below _ (Tk78.setTop (mkF m 78 (a_I6RJsJsu6 p0 p1 p2 p3 p4 cn b1 fq lq) []))
    refine Good.back (fun _ k => XS.aload Xk78.here hx rfl (hb hby at_78) rfl rfl k) ?_
    refine Good.back (Xk78.ldc2Long hx hown0 (mvT hZ0 (wd hw 10 rfl)) (g := (mkF m 80 (a_I6RJsJsu6 p0 p1 p2 p3 p4 cn b1 fq lq) [.ref b1])) rfl (hb hby at_80)) ?_
    obtain ⟨cq11, kq11, q11a, q11b, q11c⟩ := isOf hZ0 ek78 Ek
    obtain ⟨_, _, ⟨T11, L11, k11, n11⟩, -, Xc11, hSc11, hgc11, ⟨Lc11, hQ11, l11, y11, z11, Cc11⟩, st11⟩ := Xk78.virtualBackS hx (y := y_41) (z := y_41) hown0 (mvT hZ0 (wd hw 11 rfl)) (mvT hZ0 (wd hw 12 rfl)) (notFace_of_selects (args := #[]) (mvT hZ0 (wd hw 14 rfl))) (mvT hZ0 (wd hw 14 rfl)) (mvT hZ0 (wd hw 13 rfl)) (by decide) (backOfSH (W := 0) (rm3 l Z a0 hw [] b1 cs fq lq cn d1 d2 kd1 kd2 Hk78 n0 Zk78 S_csk (hcs) Ek Fk0 Fk1 Fk2 Fk3 Fk4 (hvf) (hvl) (hd_) S_d1k S_d2k V_d1k V_d2k) hZ0 (wd hw 15 rfl) (wd hw 3 rfl) (by decide) (by decide) (own_EW hw) Ck78.1) q11a q11c (g := (mkF m 83 (a_I6RJsJsu6 p0 p1 p2 p3 p4 cn b1 fq lq) [.long 1000000000, .ref b1])) rfl (by rw [hml]; rfl) (Steps.refl _) (argsL := [(.long 1000000000)]) (rest := []) (lenOf own_pd35 rfl) rfl (by show 2 * 0 + _ ≤ _; exact Nat.le_of_eq rfl) (hb hby at_83) (fun _ _ => ⟨rfl, ek78, (by decide : 1 + 28 ≤ _), (by decide : 5 + 2856 ≤ _)⟩)
    dsimp only [Pt.U, Pt.locs, Pt.cells, Pt.slots] at Xc11 hSc11 hgc11 l11 y11 z11 st11 hQ11 Cc11
    subst l11 y11 z11
    obtain ⟨X11, hS11, hZ11, hown11⟩ := rebS hS0 (by rw [ek78]; exact (Nat.zero_le _)) Xc11 hSc11 hgc11 hZ0 hown0
    obtain ⟨sr_11, a2_11, k2_11, z2_11, rfl, N11q, Kq11, o11_0, o11_1, o11_2, o11_3, o11_4, o11_5, o11_6⟩ := hQ11
    have N11 := Fr.app Nk78 N11q
    have Z12 : n0 ≤ T11.heap.size := Nat.le_trans Zk78 Kq11.1
    have hk13 := Nat.le_trans (Nat.zero_le _) Kq11.1
    have g_sr_11 : n0 ≤ sr_11 := Nat.le_trans Zk78 o11_0
    have g_a2_11 : n0 ≤ a2_11 := Nat.le_trans Zk78 o11_4
    have C11 := Ck78.trans Cc11
    refine Good.back (fun _ k => st11.trans k) ?_
    refine Good.back (fun _ k => XS.astore X11.here hx rfl (hb hby at_86) rfl rfl (l' := (a_I6RJsJsRu5 p0 p1 p2 p3 p4 cn b1 fq lq sr_11)) rfl k) ?_
    refine Good.back (fun _ k => XS.lload X11.here hx rfl (hb hby at_88) rfl k) ?_
    obtain ⟨_, _, ⟨T14, L14, k14, n14⟩, -, X14, ⟨Lc14, hQ14, l14, y14, z14⟩, st14⟩ := Jvm.LawKit.callS X11 hx (y := y_48) hown11 (mvT hZ11 (wd hw 234 rfl)) (mvT hZ11 (wd hw 235 rfl)) (mvT hZ11 (wd hw 236 rfl)) (mvT hZ11 (wd hw 237 rfl)) (by decide) (backOf (W := 0) (rm43 l Z a0 hw [] fq  T11.heap n0 Z12 (hvf)) hZ11 (wd hw 237 rfl) (wd hw 236 rfl) (by decide) (by decide)) (g := (mkF m 90 (a_I6RJsJsRu5 p0 p1 p2 p3 p4 cn b1 fq lq sr_11) [.long fq])) rfl (by rw [hml]; rfl) (argsL := [(.long fq)]) (rest := []) (lenOf own_pd11 rfl) rfl (by show 2 * 0 + _ ≤ _; exact Nat.le_of_eq rfl) (hb hby at_90) (fun _ _ => ⟨rfl, rfl, (by decide : 29 + 0 ≤ _), (by decide : 2861 + 0 ≤ _)⟩)
    dsimp only [Pt.U, Pt.locs, Pt.cells, Pt.slots] at X14 l14 y14 z14 st14 hQ14
    subst l14 y14 z14
    obtain ⟨rfl, N14q, eh14⟩ := hQ14
    have N14 := Fr.app N11 N14q
    refine Good.back st14 ?_
    refine Good.back (fun _ k => XS.istore X14.here hx rfl (hb hby at_93) rfl (l' := (a_I6RJsJsRIu4 p0 p1 p2 p3 p4 cn b1 fq lq sr_11 (own_sz fq))) rfl k) ?_
    refine Good.back (fun _ k => XS.lload X14.here hx rfl (hb hby at_95) rfl k) ?_
    obtain ⟨_, _, ⟨T15, L15, k15, n15⟩, -, X15, ⟨Lc15, hQ15, l15, y15, z15⟩, st15⟩ := Jvm.LawKit.callS X14 hx (y := y_48) hown11 (mvT hZ11 (wd hw 234 rfl)) (mvT hZ11 (wd hw 235 rfl)) (mvT hZ11 (wd hw 236 rfl)) (mvT hZ11 (wd hw 237 rfl)) (by decide) (backOf (W := 0) (rm43 l Z a0 hw [] lq  T11.heap n0 Z12 (hvl)) hZ11 (wd hw 237 rfl) (wd hw 236 rfl) (by decide) (by decide)) (g := (mkF m 97 (a_I6RJsJsRIu4 p0 p1 p2 p3 p4 cn b1 fq lq sr_11 (own_sz fq)) [.long lq])) rfl (by rw [hml]; rfl) (argsL := [(.long lq)]) (rest := []) (lenOf own_pd11 rfl) rfl (by show 2 * 0 + _ ≤ _; exact Nat.le_of_eq rfl) (hb hby at_97) (fun _ _ => ⟨rfl, eh14, (by decide : 29 + 0 ≤ _), (by decide : 2861 + 0 ≤ _)⟩)
    dsimp only [Pt.U, Pt.locs, Pt.cells, Pt.slots] at X15 l15 y15 z15 st15 hQ15
    subst l15 y15 z15
    obtain ⟨rfl, N15q, eh15⟩ := hQ15
    have N15 := Fr.app N14 N15q
    refine Good.back st15 ?_
    refine Good.back (fun _ k => XS.istore X15.here hx rfl (hb hby at_100) rfl (l' := (a_I6RJsJsRIIu3 p0 p1 p2 p3 p4 cn b1 fq lq sr_11 (own_sz fq) (own_sz lq))) rfl k) ?_
    have sf := own_sdLen hvf
    have sl := own_sdLen hvl
    have hlf := own_szI (v := fq) (by omega)
    have hll := own_szI (v := lq) (by omega)
    show Good p e below _ (T15.setTop (mkF m 102 (a_I6RJsJsRIIu3 p0 p1 p2 p3 p4 cn b1 fq lq sr_11 (own_sz fq) (own_sz lq)) []))
    refine Good.back (fun _ k => XS.bipush X15.here hx rfl (hb hby at_102) k) ?_
    refine Good.back (fun _ k => XS.iload X15.here hx rfl (hb hby at_104) rfl k) ?_
    refine Good.back (fun _ k => XS.iadd X15.here hx rfl (hb hby at_106) rfl k) ?_
    refine Good.back (fun _ k => XS.bipush X15.here hx rfl (hb hby at_107) k) ?_
    refine Good.back (fun _ k => XS.iadd X15.here hx rfl (hb hby at_109) rfl k) ?_
    show Good p e below _ (T15.setTop (mkF m 110 (a_I6RJsJsRIIu3 p0 p1 p2 p3 p4 cn b1 fq lq sr_11 (own_sz fq) (own_sz lq)) [.int (((8 : Int32) + (own_sz fq)) + (16 : Int32))]))
    have hpN := own_pN hlf sf.2
    obtain ⟨pN, epN⟩ : ∃ z, z = (((8 : Int32) + (own_sz fq)) + (16 : Int32)) := ⟨_, rfl⟩
    rw [← epN] at hpN ⊢
    show Good p e below _ (T15.setTop (mkF m 110 (a_I6RJsJsRIIu3 p0 p1 p2 p3 p4 cn b1 fq lq sr_11 (own_sz fq) (own_sz lq)) [.int pN]))
    refine Good.back (fun _ k => XS.istore X15.here hx rfl (hb hby at_110) rfl (l' := (a_I6RJsJsRI3uu p0 p1 p2 p3 p4 cn b1 fq lq sr_11 (own_sz fq) (own_sz lq) pN)) rfl k) ?_
    refine Good.back (fun _ k => XS.iload X15.here hx rfl (hb hby at_112) rfl k) ?_
    refine Good.back (fun _ k => XS.iconst X15.here hx rfl (hb hby at_114) k) ?_
    refine Good.back (fun _ k => XS.iadd X15.here hx rfl (hb hby at_115) rfl k) ?_
    refine Good.back (fun _ k => XS.bipush X15.here hx rfl (hb hby at_116) k) ?_
    refine Good.back (fun _ k => XS.iadd X15.here hx rfl (hb hby at_118) rfl k) ?_
    show Good p e below _ (T15.setTop (mkF m 119 (a_I6RJsJsRI3uu p0 p1 p2 p3 p4 cn b1 fq lq sr_11 (own_sz fq) (own_sz lq) pN) [.int ((pN + (1 : Int32)) + (7 : Int32))]))
    refine Good.back (fun _ k => XS.bipush X15.here hx rfl (hb hby at_119) k) ?_
    refine Good.back (fun _ k => XS.iadd X15.here hx rfl (hb hby at_121) rfl k) ?_
    show Good p e below _ (T15.setTop (mkF m 122 (a_I6RJsJsRI3uu p0 p1 p2 p3 p4 cn b1 fq lq sr_11 (own_sz fq) (own_sz lq) pN) [.int (((pN + (1 : Int32)) + (7 : Int32)) + (15 : Int32))]))
    have hpL := own_pL hpN sf.2
    obtain ⟨pL, epL⟩ : ∃ z, z = (((pN + (1 : Int32)) + (7 : Int32)) + (15 : Int32)) := ⟨_, rfl⟩
    rw [← epL] at hpL ⊢
    show Good p e below _ (T15.setTop (mkF m 122 (a_I6RJsJsRI3uu p0 p1 p2 p3 p4 cn b1 fq lq sr_11 (own_sz fq) (own_sz lq) pN) [.int pL]))
    refine Good.back (fun _ k => XS.istore X15.here hx rfl (hb hby at_122) rfl (l' := (a_I6RJsJsRI4u p0 p1 p2 p3 p4 cn b1 fq lq sr_11 (own_sz fq) (own_sz lq) pN pL)) rfl k) ?_
    refine Good.back (fun _ k => XS.iload X15.here hx rfl (hb hby at_124) rfl k) ?_
    refine Good.back (fun _ k => XS.iload X15.here hx rfl (hb hby at_126) rfl k) ?_
    refine Good.back (fun _ k => XS.iadd X15.here hx rfl (hb hby at_128) rfl k) ?_
    refine Good.back (fun _ k => XS.bipush X15.here hx rfl (hb hby at_129) k) ?_
    refine Good.back (fun _ k => XS.iadd X15.here hx rfl (hb hby at_131) rfl k) ?_
    show Good p e below _ (T15.setTop (mkF m 132 (a_I6RJsJsRI4u p0 p1 p2 p3 p4 cn b1 fq lq sr_11 (own_sz fq) (own_sz lq) pN pL) [.int ((pL + (own_sz lq)) + (9 : Int32))]))
    have hpT := own_pT hpL hll sf.2 sl.2
    obtain ⟨pT, epT⟩ : ∃ z, z = ((pL + (own_sz lq)) + (9 : Int32)) := ⟨_, rfl⟩
    rw [← epT] at hpT ⊢
    show Good p e below _ (T15.setTop (mkF m 132 (a_I6RJsJsRI4u p0 p1 p2 p3 p4 cn b1 fq lq sr_11 (own_sz fq) (own_sz lq) pN pL) [.int pT]))
    refine Good.back (fun _ k => XS.istore X15.here hx rfl (hb hby at_132) rfl (l' := (a_I6RJsJsRI5 p0 p1 p2 p3 p4 cn b1 fq lq sr_11 (own_sz fq) (own_sz lq) pN pL pT)) rfl k) ?_
    refine Good.back (fun _ k => XS.aload X15.here hx rfl (hb hby at_134) rfl rfl k) ?_
    have f_17 := own_staKeep S_csk Kq11 all0
    obtain ⟨cq16, kq16, q16a, q16b, q16c⟩ := isOf hZ11 eh15 o11_1
    obtain ⟨_, _, ⟨T16, L16, k16, n16⟩, -, X16, ⟨Lc16, hQ16, l16, y16, z16⟩, st16⟩ := X15.virtualBack hx (y := y_7) (z := y_7) hown11 (mvT hZ11 (wd hw 242 rfl)) (mvT hZ11 (wd hw 53 rfl)) (notFace_of_selects (args := #[]) (mvT hZ11 (wd hw 55 rfl))) (mvT hZ11 (wd hw 55 rfl)) (mvT hZ11 (wd hw 54 rfl)) (by decide) (backOf (W := 0) (rm8 l Z a0 hw [] sr_11 cs a2_11 k2_11 z2_11 (own_out fq lq cn) T11.heap n0 Z12 f_17 (hcs) o11_1 o11_2 o11_3 o11_5 (o11_6)) hZ11 (wd hw 56 rfl) (wd hw 30 rfl) (by decide) (by decide)) q16a q16c (g := (mkF m 136 (a_I6RJsJsRI5 p0 p1 p2 p3 p4 cn b1 fq lq sr_11 (own_sz fq) (own_sz lq) pN pL pT) [.ref sr_11])) rfl (by rw [hml]; rfl) (Steps.refl _) (argsL := []) (rest := []) (lenOf own_pd7 rfl) rfl (by show 2 * 0 + _ ≤ _; exact Nat.le_of_eq rfl) (hb hby at_136) (fun _ _ => ⟨rfl, eh15, (by decide : 29 + 0 ≤ _), (by decide : 2861 + 0 ≤ _)⟩)
    dsimp only [Pt.U, Pt.locs, Pt.cells, Pt.slots] at X16 l16 y16 z16 st16 hQ16
    subst l16 y16 z16
    obtain ⟨rfl, N16q, eh16⟩ := hQ16
    have N16 := Fr.app N15 N16q
    refine Good.back (fun _ k => st16.trans k) ?_
    refine Good.back (fun _ k => XS.iload X16.here hx rfl (hb hby at_139) rfl k) ?_
    show Good p e below _ (T16.setTop (mkF m 141 (a_I6RJsJsRI5 p0 p1 p2 p3 p4 cn b1 fq lq sr_11 (own_sz fq) (own_sz lq) pN pL pT) [.int pT, .int z2_11]))
    refine Good.back (fun _ k => XS.icmpYes X16.here hx rfl (pc0 := 141) (pc' := 146) rfl (hb hby at_141) rfl (teq (Int32.toInt_inj.mp (by rw [o11_6, own_oL, hpT]))).1 (by decide) (by decide) k) ?_
    refine Good.back (fun _ k => XS.aload X16.here hx rfl (hb hby at_146) rfl rfl k) ?_
    refine Good.back (fun _ k => XS.bipush X16.here hx rfl (hb hby at_148) k) ?_
    refine Good.back (fun _ k => XS.lload X16.here hx rfl (hb hby at_150) rfl k) ?_
    have f_19 := own_staKeep S_fk Kq11 all0
    obtain ⟨_, _, ⟨T18, L18, k18, n18⟩, -, X18, ⟨Lc18, hQ18, l18, y18, z18⟩, st18⟩ := Jvm.LawKit.callS X16 hx (y := y_49) hown11 (mvT hZ11 (wd hw 243 rfl)) (mvT hZ11 (wd hw 244 rfl)) (mvT hZ11 (wd hw 236 rfl)) (mvT hZ11 (wd hw 245 rfl)) (by decide) (backOf (W := 0) (rm45 l Z a0 hw [] sr_11 (8 : Int32) fq cs a2_11 k2_11 z2_11 (own_out fq lq cn) vf 8 T11.heap n0 Z12 f_17 (hcs) o11_1 o11_2 o11_3 o11_5 (o11_6) f_19 (hfm) (hvf) (rfl) (by decide) (own_o1 fq lq cn)) hZ11 (wd hw 245 rfl) (wd hw 236 rfl) (by decide) (by decide)) (g := (mkF m 152 (a_I6RJsJsRI5 p0 p1 p2 p3 p4 cn b1 fq lq sr_11 (own_sz fq) (own_sz lq) pN pL pT) [.long fq, .int 8, .ref sr_11])) rfl (by rw [hml]; rfl) (argsL := [(.ref sr_11), (.int 8), (.long fq)]) (rest := []) (lenOf own_pd36 rfl) rfl (by show 2 * 0 + _ ≤ _; exact Nat.le_of_eq rfl) (hb hby at_152) (fun _ _ => ⟨rfl, eh16, (by decide : 29 + 0 ≤ _), (by decide : 2861 + 0 ≤ _)⟩)
    dsimp only [Pt.U, Pt.locs, Pt.cells, Pt.slots] at X18 l18 y18 z18 st18 hQ18
    subst l18 y18 z18
    obtain ⟨rfl, N18q, eh18⟩ := hQ18
    have N18 := Fr.app N16 N18q
    refine Good.back st18 ?_
    refine Good.back (fun _ k => XS.ifNo X18.here hx rfl (hb hby at_155) rfl ((if0 _ _).trans (feq (by decide : ¬ ((1 : Int32) = (0 : Int32)))).1) k) ?_
    refine Good.back (fun _ k => XS.aload X18.here hx rfl (hb hby at_158) rfl rfl k) ?_
    refine Good.back (fun _ k => XS.bipush X18.here hx rfl (hb hby at_160) k) ?_
    refine Good.back (fun _ k => XS.iload X18.here hx rfl (hb hby at_162) rfl k) ?_
    refine Good.back (fun _ k => XS.iadd X18.here hx rfl (hb hby at_164) rfl k) ?_
    show Good p e below _ (T18.setTop (mkF m 165 (a_I6RJsJsRI5 p0 p1 p2 p3 p4 cn b1 fq lq sr_11 (own_sz fq) (own_sz lq) pN pL pT) [.int ((8 : Int32) + (own_sz fq)), .ref sr_11]))
    obtain ⟨cq20, kq20, q20a, q20b, q20c⟩ := isOf hZ11 eh18 o11_1
    obtain ⟨_, _, ⟨T20, L20, k20, n20⟩, -, X20, ⟨Lc20, hQ20, l20, y20, z20⟩, st20⟩ := X18.virtualBack hx (y := y_46) (z := y_46) hown11 (mvT hZ11 (wd hw 246 rfl)) (mvT hZ11 (wd hw 247 rfl)) (notFace_of_selects (args := #[]) (mvT hZ11 (wd hw 249 rfl))) (mvT hZ11 (wd hw 249 rfl)) (mvT hZ11 (wd hw 248 rfl)) (by decide) (backOf (W := 0) (rm46 l Z a0 hw [] sr_11 ((8 : Int32) + (own_sz fq)) cs a2_11 k2_11 z2_11 (own_out fq lq cn) vf (8 + (own_sd fq).length) (32 : Int32) T11.heap n0 Z12 f_17 (hcs) o11_1 o11_2 o11_3 o11_5 (o11_6) f_19 (hfm) (own_addI (show (8 : Int32).toInt = ((8 : Nat) : Int) from rfl) hlf (by omega)) ((own_o2 fq lq cn 0 (by decide)).trans rfl) (by decide)) hZ11 (wd hw 250 rfl) (wd hw 30 rfl) (by decide) (by decide)) q20a q20c (g := (mkF m 165 (a_I6RJsJsRI5 p0 p1 p2 p3 p4 cn b1 fq lq sr_11 (own_sz fq) (own_sz lq) pN pL pT) [.int ((8 : Int32) + (own_sz fq)), .ref sr_11])) rfl (by rw [hml]; rfl) (Steps.refl _) (argsL := [(.int ((8 : Int32) + (own_sz fq)))]) (rest := []) (lenOf own_pd34 rfl) rfl (by show 2 * 0 + _ ≤ _; exact Nat.le_of_eq rfl) (hb hby at_165) (fun _ _ => ⟨rfl, eh18, (by decide : 29 + 0 ≤ _), (by decide : 2861 + 0 ≤ _)⟩)
    dsimp only [Pt.U, Pt.locs, Pt.cells, Pt.slots] at X20 l20 y20 z20 st20 hQ20
    subst l20 y20 z20
    obtain ⟨rfl, N20q, eh20⟩ := hQ20
    have N20 := Fr.app N18 N20q
    refine Good.back (fun _ k => st20.trans k) ?_
    refine Good.back (fun _ k => XS.bipush X20.here hx rfl (hb hby at_168) k) ?_
    refine Good.back (fun _ k => XS.icmpNo X20.here hx rfl (hb hby at_170) rfl (teq (by decide : ((32 : Int32) = (32 : Int32)))).2 k) ?_
    refine Good.back (fun _ k => XS.aload X20.here hx rfl (hb hby at_173) rfl rfl k) ?_
    refine Good.back (fun _ k => XS.iload X20.here hx rfl (hb hby at_175) rfl k) ?_
    refine Good.back (fun _ k => XS.iconst X20.here hx rfl (hb hby at_177) k) ?_
    show Good p e below _ (T20.setTop (mkF m 178 (a_I6RJsJsRI5 p0 p1 p2 p3 p4 cn b1 fq lq sr_11 (own_sz fq) (own_sz lq) pN pL pT) [.int 1, .int pN, .ref sr_11]))
    refine Good.back (fun _ k => XS.isub X20.here hx rfl (hb hby at_178) rfl k) ?_
    obtain ⟨cq21, kq21, q21a, q21b, q21c⟩ := isOf hZ11 eh20 o11_1
    obtain ⟨_, _, ⟨T21, L21, k21, n21⟩, -, X21, ⟨Lc21, hQ21, l21, y21, z21⟩, st21⟩ := X20.virtualBack hx (y := y_46) (z := y_46) hown11 (mvT hZ11 (wd hw 246 rfl)) (mvT hZ11 (wd hw 247 rfl)) (notFace_of_selects (args := #[]) (mvT hZ11 (wd hw 249 rfl))) (mvT hZ11 (wd hw 249 rfl)) (mvT hZ11 (wd hw 248 rfl)) (by decide) (backOf (W := 0) (rm46 l Z a0 hw [] sr_11 (pN - (1 : Int32)) cs a2_11 k2_11 z2_11 (own_out fq lq cn) vf (8 + (own_sd fq).length + 15) (32 : Int32) T11.heap n0 Z12 f_17 (hcs) o11_1 o11_2 o11_3 o11_5 (o11_6) f_19 (hfm) (by have q := own_subI hpN (show (1 : Int32).toInt = ((1 : Nat) : Int) from rfl) (by omega) (by omega); omega) ((own_o2 fq lq cn 15 (by decide)).trans rfl) (by decide)) hZ11 (wd hw 250 rfl) (wd hw 30 rfl) (by decide) (by decide)) q21a q21c (g := (mkF m 179 (a_I6RJsJsRI5 p0 p1 p2 p3 p4 cn b1 fq lq sr_11 (own_sz fq) (own_sz lq) pN pL pT) [.int (pN - (1 : Int32)), .ref sr_11])) rfl (by rw [hml]; rfl) (Steps.refl _) (argsL := [(.int (pN - (1 : Int32)))]) (rest := []) (lenOf own_pd34 rfl) rfl (by show 2 * 0 + _ ≤ _; exact Nat.le_of_eq rfl) (hb hby at_179) (fun _ _ => ⟨rfl, eh20, (by decide : 29 + 0 ≤ _), (by decide : 2861 + 0 ≤ _)⟩)
    dsimp only [Pt.U, Pt.locs, Pt.cells, Pt.slots] at X21 l21 y21 z21 st21 hQ21
    subst l21 y21 z21
    obtain ⟨rfl, N21q, eh21⟩ := hQ21
    have N21 := Fr.app N20 N21q
    refine Good.back (fun _ k => st21.trans k) ?_
    refine Good.back (fun _ k => XS.bipush X21.here hx rfl (hb hby at_182) k) ?_
    refine Good.back (fun _ k => XS.icmpNo X21.here hx rfl (hb hby at_184) rfl (teq (by decide : ((32 : Int32) = (32 : Int32)))).2 k) ?_
    refine Good.back (fun _ k => XS.aload X21.here hx rfl (hb hby at_187) rfl rfl k) ?_
    refine Good.back (fun _ k => XS.iload X21.here hx rfl (hb hby at_189) rfl k) ?_
    obtain ⟨cq22, kq22, q22a, q22b, q22c⟩ := isOf hZ11 eh21 o11_1
    obtain ⟨_, _, ⟨T22, L22, k22, n22⟩, -, X22, ⟨Lc22, hQ22, l22, y22, z22⟩, st22⟩ := X21.virtualBack hx (y := y_46) (z := y_46) hown11 (mvT hZ11 (wd hw 246 rfl)) (mvT hZ11 (wd hw 247 rfl)) (notFace_of_selects (args := #[]) (mvT hZ11 (wd hw 249 rfl))) (mvT hZ11 (wd hw 249 rfl)) (mvT hZ11 (wd hw 248 rfl)) (by decide) (backOf (W := 0) (rm46 l Z a0 hw [] sr_11 pN cs a2_11 k2_11 z2_11 (own_out fq lq cn) vf (24 + (own_sd fq).length) (own_d1 cn) T11.heap n0 Z12 f_17 (hcs) o11_1 o11_2 o11_3 o11_5 (o11_6) f_19 (hfm) (hpN) (own_o3 fq lq cn) ((own_d1c hd_).2)) hZ11 (wd hw 250 rfl) (wd hw 30 rfl) (by decide) (by decide)) q22a q22c (g := (mkF m 191 (a_I6RJsJsRI5 p0 p1 p2 p3 p4 cn b1 fq lq sr_11 (own_sz fq) (own_sz lq) pN pL pT) [.int pN, .ref sr_11])) rfl (by rw [hml]; rfl) (Steps.refl _) (argsL := [(.int pN)]) (rest := []) (lenOf own_pd34 rfl) rfl (by show 2 * 0 + _ ≤ _; exact Nat.le_of_eq rfl) (hb hby at_191) (fun _ _ => ⟨rfl, eh21, (by decide : 29 + 0 ≤ _), (by decide : 2861 + 0 ≤ _)⟩)
    dsimp only [Pt.U, Pt.locs, Pt.cells, Pt.slots] at X22 l22 y22 z22 st22 hQ22
    subst l22 y22 z22
    obtain ⟨rfl, N22q, eh22⟩ := hQ22
    have N22 := Fr.app N21 N22q
    refine Good.back (fun _ k => st22.trans k) ?_
    refine Good.back (fun _ k => XS.bipush X22.here hx rfl (hb hby at_194) k) ?_
    refine Good.back (fun _ k => XS.iload X22.here hx rfl (hb hby at_196) rfl k) ?_
    refine Good.back (fun _ k => XS.iadd X22.here hx rfl (hb hby at_198) rfl k) ?_
    refine Good.back (fun _ k => XS.i2c X22.here hx rfl (hb hby at_199) rfl k) ?_
    show Good p e below _ (T22.setTop (mkF m 200 (a_I6RJsJsRI5 p0 p1 p2 p3 p4 cn b1 fq lq sr_11 (own_sz fq) (own_sz lq) pN pL pT) [.int (((48 : Int32) + cn).toUInt32.toUInt16.toUInt32.toInt32), .int (own_d1 cn)]))
    rw [show ((((48 : Int32) + cn).toUInt32.toUInt16.toUInt32.toInt32) : Int32) = (own_d1 cn) from (own_d1c hd_).1]
    show Good p e below _ (T22.setTop (mkF m 200 (a_I6RJsJsRI5 p0 p1 p2 p3 p4 cn b1 fq lq sr_11 (own_sz fq) (own_sz lq) pN pL pT) [.int (own_d1 cn), .int (own_d1 cn)]))
    refine Good.back (fun _ k => XS.icmpNo X22.here hx rfl (hb hby at_200) rfl (teq (rfl : (own_d1 cn) = (own_d1 cn))).2 k) ?_
    refine Good.back (fun _ k => XS.aload X22.here hx rfl (hb hby at_203) rfl rfl k) ?_
    refine Good.back (fun _ k => XS.iload X22.here hx rfl (hb hby at_205) rfl k) ?_
    refine Good.back (fun _ k => XS.iconst X22.here hx rfl (hb hby at_207) k) ?_
    refine Good.back (fun _ k => XS.iadd X22.here hx rfl (hb hby at_208) rfl k) ?_
    obtain ⟨cq23, kq23, q23a, q23b, q23c⟩ := isOf hZ11 eh22 o11_1
    obtain ⟨_, _, ⟨T23, L23, k23, n23⟩, -, X23, ⟨Lc23, hQ23, l23, y23, z23⟩, st23⟩ := X22.virtualBack hx (y := y_46) (z := y_46) hown11 (mvT hZ11 (wd hw 246 rfl)) (mvT hZ11 (wd hw 247 rfl)) (notFace_of_selects (args := #[]) (mvT hZ11 (wd hw 249 rfl))) (mvT hZ11 (wd hw 249 rfl)) (mvT hZ11 (wd hw 248 rfl)) (by decide) (backOf (W := 0) (rm46 l Z a0 hw [] sr_11 (pN + (1 : Int32)) cs a2_11 k2_11 z2_11 (own_out fq lq cn) vf (25 + (own_sd fq).length) (32 : Int32) T11.heap n0 Z12 f_17 (hcs) o11_1 o11_2 o11_3 o11_5 (o11_6) f_19 (hfm) (by have q := own_addI hpN (show (1 : Int32).toInt = ((1 : Nat) : Int) from rfl) (by omega); omega) ((own_o4 fq lq cn 0 (by decide)).trans rfl) (by decide)) hZ11 (wd hw 250 rfl) (wd hw 30 rfl) (by decide) (by decide)) q23a q23c (g := (mkF m 209 (a_I6RJsJsRI5 p0 p1 p2 p3 p4 cn b1 fq lq sr_11 (own_sz fq) (own_sz lq) pN pL pT) [.int (pN + (1 : Int32)), .ref sr_11])) rfl (by rw [hml]; rfl) (Steps.refl _) (argsL := [(.int (pN + (1 : Int32)))]) (rest := []) (lenOf own_pd34 rfl) rfl (by show 2 * 0 + _ ≤ _; exact Nat.le_of_eq rfl) (hb hby at_209) (fun _ _ => ⟨rfl, eh22, (by decide : 29 + 0 ≤ _), (by decide : 2861 + 0 ≤ _)⟩)
    dsimp only [Pt.U, Pt.locs, Pt.cells, Pt.slots] at X23 l23 y23 z23 st23 hQ23
    subst l23 y23 z23
    obtain ⟨rfl, N23q, eh23⟩ := hQ23
    have N23 := Fr.app N22 N23q
    refine Good.back (fun _ k => st23.trans k) ?_
    refine Good.back (fun _ k => XS.bipush X23.here hx rfl (hb hby at_212) k) ?_
    refine Good.back (fun _ k => XS.icmpNo X23.here hx rfl (hb hby at_214) rfl (teq (by decide : ((32 : Int32) = (32 : Int32)))).2 k) ?_
    refine Good.back (fun _ k => XS.aload X23.here hx rfl (hb hby at_217) rfl rfl k) ?_
    refine Good.back (fun _ k => XS.iload X23.here hx rfl (hb hby at_219) rfl k) ?_
    refine Good.back (fun _ k => XS.iconst X23.here hx rfl (hb hby at_221) k) ?_
    show Good p e below _ (T23.setTop (mkF m 222 (a_I6RJsJsRI5 p0 p1 p2 p3 p4 cn b1 fq lq sr_11 (own_sz fq) (own_sz lq) pN pL pT) [.int 1, .int pL, .ref sr_11]))
    refine Good.back (fun _ k => XS.isub X23.here hx rfl (hb hby at_222) rfl k) ?_
    obtain ⟨cq24, kq24, q24a, q24b, q24c⟩ := isOf hZ11 eh23 o11_1
    obtain ⟨_, _, ⟨T24, L24, k24, n24⟩, -, X24, ⟨Lc24, hQ24, l24, y24, z24⟩, st24⟩ := X23.virtualBack hx (y := y_46) (z := y_46) hown11 (mvT hZ11 (wd hw 246 rfl)) (mvT hZ11 (wd hw 247 rfl)) (notFace_of_selects (args := #[]) (mvT hZ11 (wd hw 249 rfl))) (mvT hZ11 (wd hw 249 rfl)) (mvT hZ11 (wd hw 248 rfl)) (by decide) (backOf (W := 0) (rm46 l Z a0 hw [] sr_11 (pL - (1 : Int32)) cs a2_11 k2_11 z2_11 (own_out fq lq cn) vf (25 + (own_sd fq).length + 21) (32 : Int32) T11.heap n0 Z12 f_17 (hcs) o11_1 o11_2 o11_3 o11_5 (o11_6) f_19 (hfm) (by have q := own_subI hpL (show (1 : Int32).toInt = ((1 : Nat) : Int) from rfl) (by omega) (by omega); omega) ((own_o4 fq lq cn 21 (by decide)).trans rfl) (by decide)) hZ11 (wd hw 250 rfl) (wd hw 30 rfl) (by decide) (by decide)) q24a q24c (g := (mkF m 223 (a_I6RJsJsRI5 p0 p1 p2 p3 p4 cn b1 fq lq sr_11 (own_sz fq) (own_sz lq) pN pL pT) [.int (pL - (1 : Int32)), .ref sr_11])) rfl (by rw [hml]; rfl) (Steps.refl _) (argsL := [(.int (pL - (1 : Int32)))]) (rest := []) (lenOf own_pd34 rfl) rfl (by show 2 * 0 + _ ≤ _; exact Nat.le_of_eq rfl) (hb hby at_223) (fun _ _ => ⟨rfl, eh23, (by decide : 29 + 0 ≤ _), (by decide : 2861 + 0 ≤ _)⟩)
    dsimp only [Pt.U, Pt.locs, Pt.cells, Pt.slots] at X24 l24 y24 z24 st24 hQ24
    subst l24 y24 z24
    obtain ⟨rfl, N24q, eh24⟩ := hQ24
    have N24 := Fr.app N23 N24q
    refine Good.back (fun _ k => st24.trans k) ?_
    refine Good.back (fun _ k => XS.bipush X24.here hx rfl (hb hby at_226) k) ?_
    refine Good.back (fun _ k => XS.icmpNo X24.here hx rfl (hb hby at_228) rfl (teq (by decide : ((32 : Int32) = (32 : Int32)))).2 k) ?_
    refine Good.back (fun _ k => XS.aload X24.here hx rfl (hb hby at_231) rfl rfl k) ?_
    refine Good.back (fun _ k => XS.iload X24.here hx rfl (hb hby at_233) rfl k) ?_
    refine Good.back (fun _ k => XS.lload X24.here hx rfl (hb hby at_235) rfl k) ?_
    show Good p e below _ (T24.setTop (mkF m 237 (a_I6RJsJsRI5 p0 p1 p2 p3 p4 cn b1 fq lq sr_11 (own_sz fq) (own_sz lq) pN pL pT) [.long lq, .int pL, .ref sr_11]))
    obtain ⟨_, _, ⟨T25, L25, k25, n25⟩, -, X25, ⟨Lc25, hQ25, l25, y25, z25⟩, st25⟩ := Jvm.LawKit.callS X24 hx (y := y_49) hown11 (mvT hZ11 (wd hw 243 rfl)) (mvT hZ11 (wd hw 244 rfl)) (mvT hZ11 (wd hw 236 rfl)) (mvT hZ11 (wd hw 245 rfl)) (by decide) (backOf (W := 0) (rm45 l Z a0 hw [] sr_11 pL lq cs a2_11 k2_11 z2_11 (own_out fq lq cn) vf (47 + (own_sd fq).length) T11.heap n0 Z12 f_17 (hcs) o11_1 o11_2 o11_3 o11_5 (o11_6) f_19 (hfm) (hvl) (hpL) (by omega) (own_o5 fq lq cn)) hZ11 (wd hw 245 rfl) (wd hw 236 rfl) (by decide) (by decide)) (g := (mkF m 237 (a_I6RJsJsRI5 p0 p1 p2 p3 p4 cn b1 fq lq sr_11 (own_sz fq) (own_sz lq) pN pL pT) [.long lq, .int pL, .ref sr_11])) rfl (by rw [hml]; rfl) (argsL := [(.ref sr_11), (.int pL), (.long lq)]) (rest := []) (lenOf own_pd36 rfl) rfl (by show 2 * 0 + _ ≤ _; exact Nat.le_of_eq rfl) (hb hby at_237) (fun _ _ => ⟨rfl, eh24, (by decide : 29 + 0 ≤ _), (by decide : 2861 + 0 ≤ _)⟩)
    dsimp only [Pt.U, Pt.locs, Pt.cells, Pt.slots] at X25 l25 y25 z25 st25 hQ25
    subst l25 y25 z25
    obtain ⟨rfl, N25q, eh25⟩ := hQ25
    have N25 := Fr.app N24 N25q
    refine Good.back st25 ?_
    refine Good.back (fun _ k => XS.ifNo X25.here hx rfl (hb hby at_240) rfl ((if0 _ _).trans (feq (by decide : ¬ ((1 : Int32) = (0 : Int32)))).1) k) ?_
    refine Good.back (fun _ k => XS.aload X25.here hx rfl (hb hby at_243) rfl rfl k) ?_
    refine Good.back (fun _ k => XS.iload X25.here hx rfl (hb hby at_245) rfl k) ?_
    refine Good.back (fun _ k => XS.iload X25.here hx rfl (hb hby at_247) rfl k) ?_
    refine Good.back (fun _ k => XS.iadd X25.here hx rfl (hb hby at_249) rfl k) ?_
    show Good p e below _ (T25.setTop (mkF m 250 (a_I6RJsJsRI5 p0 p1 p2 p3 p4 cn b1 fq lq sr_11 (own_sz fq) (own_sz lq) pN pL pT) [.int (pL + (own_sz lq)), .ref sr_11]))
    obtain ⟨cq26, kq26, q26a, q26b, q26c⟩ := isOf hZ11 eh25 o11_1
    obtain ⟨_, _, ⟨T26, L26, k26, n26⟩, -, X26, ⟨Lc26, hQ26, l26, y26, z26⟩, st26⟩ := X25.virtualBack hx (y := y_46) (z := y_46) hown11 (mvT hZ11 (wd hw 246 rfl)) (mvT hZ11 (wd hw 247 rfl)) (notFace_of_selects (args := #[]) (mvT hZ11 (wd hw 249 rfl))) (mvT hZ11 (wd hw 249 rfl)) (mvT hZ11 (wd hw 248 rfl)) (by decide) (backOf (W := 0) (rm46 l Z a0 hw [] sr_11 (pL + (own_sz lq)) cs a2_11 k2_11 z2_11 (own_out fq lq cn) vf (47 + (own_sd fq).length + (own_sd lq).length) (32 : Int32) T11.heap n0 Z12 f_17 (hcs) o11_1 o11_2 o11_3 o11_5 (o11_6) f_19 (hfm) (own_addI hpL hll (by omega)) (own_o6 fq lq cn) (by decide)) hZ11 (wd hw 250 rfl) (wd hw 30 rfl) (by decide) (by decide)) q26a q26c (g := (mkF m 250 (a_I6RJsJsRI5 p0 p1 p2 p3 p4 cn b1 fq lq sr_11 (own_sz fq) (own_sz lq) pN pL pT) [.int (pL + (own_sz lq)), .ref sr_11])) rfl (by rw [hml]; rfl) (Steps.refl _) (argsL := [(.int (pL + (own_sz lq)))]) (rest := []) (lenOf own_pd34 rfl) rfl (by show 2 * 0 + _ ≤ _; exact Nat.le_of_eq rfl) (hb hby at_250) (fun _ _ => ⟨rfl, eh25, (by decide : 29 + 0 ≤ _), (by decide : 2861 + 0 ≤ _)⟩)
    dsimp only [Pt.U, Pt.locs, Pt.cells, Pt.slots] at X26 l26 y26 z26 st26 hQ26
    subst l26 y26 z26
    obtain ⟨rfl, N26q, eh26⟩ := hQ26
    have N26 := Fr.app N25 N26q
    refine Good.back (fun _ k => st26.trans k) ?_
    refine Good.back (fun _ k => XS.bipush X26.here hx rfl (hb hby at_253) k) ?_
    refine Good.back (fun _ k => XS.icmpNo X26.here hx rfl (hb hby at_255) rfl (teq (by decide : ((32 : Int32) = (32 : Int32)))).2 k) ?_
    refine Good.back (fun _ k => XS.iconst X26.here hx rfl (hb hby at_258) k) ?_
    refine Good.back (fun _ k => XS.goto X26.here hx rfl (pc0 := 259) (pc' := 263) rfl (hb hby at_259) (by decide) (by decide) k) ?_
    show Good p e below _ (T26.setTop (mkF m 263 (a_I6RJsJsRI5 p0 p1 p2 p3 p4 cn b1 fq lq sr_11 (own_sz fq) (own_sz lq) pN pL pT) [.int 1]))
    obtain ⟨fs27, hr27, hrun27, hended27, hRE27⟩ := leaveW X26 hS11 (by rw [eh26]; exact (Nat.le_refl _)) (v := some (.int 1)) (fun h => by rw [Bd.returns] at h; cases h)
    have hCH27 : CHr Z own_EL s.vm s.heap T26.vm T26.heap := by rw [hh, eh26]; exact C11.trans (CHv.at X26 hZ11 (own_EW hw) C11.1)
    refine Good.done (retN X26 hx (t := .boolean) Bd.returns (by simp) (hb hby at_263) hr27) hrun27 hended27 ⟨_, _, rfl, ?_, hCH27, hRE27.1, hRE27.2.1, hRE27.2.2.1, hRE27.2.2.2.mono (by decide) (by decide)⟩
    show Q0 Z p0 p1 p2 p3 p4 cs d1 d2 kd1 kd2 vf h0 n0 _ T26.heap _
    rw [eh26]
    exact ⟨rfl, N26⟩
  show Good p e below _ (T10.setTop (mkF m 24 (a_I6RJsJsu6 p0 p1 p2 p3 p4 ((p4 &&& (2147483647 : Int32)) % (3 : Int32)) b1 0 0) []))
  obtain ⟨k28, hk28, he28⟩ := own_modm (x := p4) (y := 3) (d := 3) (n := 3) rfl (by decide) (by decide)
  rcases (by omega : k28 = 0 ∨ k28 = 1 ∨ k28 = 2) with rfl | rfl | rfl
  · have he28' : ((p4 &&& (2147483647 : Int32)) % (3 : Int32)) = (0 : Int32) := he28
    rw [he28']
    show Good p e below _ (T10.setTop (mkF m 24 (a_I6RJsJsu6 p0 p1 p2 p3 p4 0 b1 0 0) []))
    refine Good.back (fun _ k => XS.iload X10.here hx rfl (hb hby at_24) rfl k) ?_
    refine Good.back (fun _ k => XS.iconst X10.here hx rfl (hb hby at_26) k) ?_
    refine Good.back (fun _ k => XS.icmpYes X10.here hx rfl (pc0 := 27) (pc' := 51) rfl (hb hby at_27) rfl (tlt (by decide : ((0 : Int32) < (1 : Int32)))).1 (by decide) (by decide) k) ?_
    refine Good.back (fun _ k => XS.iload X10.here hx rfl (hb hby at_51) rfl k) ?_
    refine Good.back (fun _ k => XS.iconst X10.here hx rfl (hb hby at_53) k) ?_
    refine Good.back (fun _ k => XS.icmpYes X10.here hx rfl (pc0 := 54) (pc' := 78) rfl (hb hby at_54) rfl (tlt (by decide : ((0 : Int32) < (2 : Int32)))).1 (by decide) (by decide) k) ?_
    show Good p e below _ (T10.setTop (mkF m 78 (a_I6RJsJsu6 p0 p1 p2 p3 p4 0 b1 0 0) []))
    have f_29 := Sta.ext E1 S_cs
    have f_30 := Sta.ext E1 S_d1
    have f_31 := Sta.ext E1 S_d2
    have f_32 := Arv.ext V_d1 E1
    have f_33 := Arv.ext V_d2 E1
    have f_34 := Sta.ext E1 S_f
    have C35 := C0.trans (CHr.ext E1 C0.1)
    exact key78 ((0 : Int64)) ((0 : Int64)) ((0 : Int32)) h1 _ _ X10 N10 eh10 (Z2) (C35) (f_4) (f_5) (f_9) (f_6) (f_7) (f_8) (f_29) (f_30) (f_31) (f_32) (f_33) (f_34) (by decide) (by decide) (by decide)
  · have he28' : ((p4 &&& (2147483647 : Int32)) % (3 : Int32)) = (1 : Int32) := he28
    rw [he28']
    show Good p e below _ (T10.setTop (mkF m 24 (a_I6RJsJsu6 p0 p1 p2 p3 p4 1 b1 0 0) []))
    refine Good.back (fun _ k => XS.iload X10.here hx rfl (hb hby at_24) rfl k) ?_
    refine Good.back (fun _ k => XS.iconst X10.here hx rfl (hb hby at_26) k) ?_
    refine Good.back (fun _ k => XS.icmpNo X10.here hx rfl (hb hby at_27) rfl (flt (by decide : ¬ ((1 : Int32) < (1 : Int32)))).1 k) ?_
    refine Good.back (fun _ k => XS.aload X10.here hx rfl (hb hby at_30) rfl rfl k) ?_
    refine Good.back (fun _ k => XS.iloadN X10.here hx rfl (hb hby at_32) rfl k) ?_
    refine Good.back (fun _ k => XS.iloadN X10.here hx rfl (hb hby at_33) rfl k) ?_
    show Good p e below _ (T10.setTop (mkF m 34 (a_I6RJsJsu6 p0 p1 p2 p3 p4 1 b1 0 0) [.int p1, .int p0, .ref b1]))
    obtain ⟨cq36, kq36, q36a, q36b, q36c⟩ := isOf hZ0 eh10 f_4
    obtain ⟨_, _, ⟨T36, L36, k36, n36⟩, -, X36, ⟨Lc36, hQ36, l36, y36, z36⟩, st36⟩ := X10.virtualBack hx (y := y_40) (z := y_40) hown0 (mvT hZ0 (wd hw 267 rfl)) (mvT hZ0 (wd hw 268 rfl)) (notFace_of_selects (args := #[]) (mvT hZ0 (wd hw 270 rfl))) (mvT hZ0 (wd hw 270 rfl)) (mvT hZ0 (wd hw 269 rfl)) (by decide) (backOf (W := 0) (rm51 l Z a0 hw [] b1 p0 p1 (0 : Int64) (0 : Int64) (0 : Int32) h1 n0 Z2 f_4 g_b1 f_5 f_9 f_6 f_7 f_8) hZ0 (wd hw 271 rfl) (wd hw 3 rfl) (by decide) (by decide)) q36a q36c (g := (mkF m 34 (a_I6RJsJsu6 p0 p1 p2 p3 p4 1 b1 0 0) [.int p1, .int p0, .ref b1])) rfl (by rw [hml]; rfl) (Steps.refl _) (argsL := [(.int p0), (.int p1)]) (rest := []) (lenOf own_pd19 rfl) rfl (by show 2 * 0 + _ ≤ _; exact Nat.le_of_eq rfl) (hb hby at_34) (fun _ _ => ⟨rfl, eh10, (by decide : 1 + 0 ≤ _), (by decide : 5 + 0 ≤ _)⟩)
    dsimp only [Pt.U, Pt.locs, Pt.cells, Pt.slots] at X36 l36 y36 z36 st36 hQ36
    subst l36 y36 z36
    obtain ⟨rfl, N36q, Kq36, o36_0, o36_1, o36_2, o36_3, o36_4⟩ := hQ36
    have N36 := Fr.app N10 N36q
    have Z37 : n0 ≤ T36.heap.size := Nat.le_trans Z2 Kq36.1
    have hk38 := Nat.le_trans hk3 Kq36.1
    refine Good.back (fun _ k => st36.trans k) ?_
    refine Good.back (fun _ k => XS.lload X36.here hx rfl (hb hby at_37) rfl k) ?_
    refine Good.back (fun _ k => XS.iloadN X36.here hx rfl (hb hby at_39) rfl k) ?_
    refine Good.back (fun _ k => XS.i2l X36.here hx rfl (hb hby at_40) rfl k) ?_
    refine Good.back (fun _ k => XS.ladd X36.here hx rfl (hb hby at_41) rfl k) ?_
    refine Good.back (fun _ k => XS.lstore X36.here hx rfl (hb hby at_42) rfl (l' := (a_I6RJsJsu6 p0 p1 p2 p3 p4 1 b1 ((0 : Int64) + (p0.toInt64)) 0)) rfl k) ?_
    show Good p e below _ (T36.setTop (mkF m 44 (a_I6RJsJsu6 p0 p1 p2 p3 p4 1 b1 ((0 : Int64) + (p0.toInt64)) 0) []))
    refine Good.back (fun _ k => XS.lload X36.here hx rfl (hb hby at_44) rfl k) ?_
    refine Good.back (fun _ k => XS.iloadN X36.here hx rfl (hb hby at_46) rfl k) ?_
    refine Good.back (fun _ k => XS.i2l X36.here hx rfl (hb hby at_47) rfl k) ?_
    refine Good.back (fun _ k => XS.ladd X36.here hx rfl (hb hby at_48) rfl k) ?_
    refine Good.back (fun _ k => XS.lstore X36.here hx rfl (hb hby at_49) rfl (l' := (a_I6RJsJsu6 p0 p1 p2 p3 p4 1 b1 ((0 : Int64) + (p0.toInt64)) ((0 : Int64) + (p1.toInt64)))) rfl k) ?_
    refine Good.back (fun _ k => XS.iload X36.here hx rfl (hb hby at_51) rfl k) ?_
    show Good p e below _ (T36.setTop (mkF m 53 (a_I6RJsJsu6 p0 p1 p2 p3 p4 1 b1 ((0 : Int64) + (p0.toInt64)) ((0 : Int64) + (p1.toInt64))) [.int 1]))
    refine Good.back (fun _ k => XS.iconst X36.here hx rfl (hb hby at_53) k) ?_
    refine Good.back (fun _ k => XS.icmpYes X36.here hx rfl (pc0 := 54) (pc' := 78) rfl (hb hby at_54) rfl (tlt (by decide : ((1 : Int32) < (2 : Int32)))).1 (by decide) (by decide) k) ?_
    have f_39 : Fld Z T36.heap b1 "com/example/liken/liken/cli/IndexSummary" "files" "I" (.int 1) := by have q := o36_2; rw [show ((0 : Int32) + (1 : Int32)) = (1 : Int32) by decide] at q; exact q
    show Good p e below _ (T36.setTop (mkF m 78 (a_I6RJsJsu6 p0 p1 p2 p3 p4 1 b1 ((0 : Int64) + (p0.toInt64)) ((0 : Int64) + (p1.toInt64))) []))
    have f_40 := Exa.keep f_4 Kq36
    have f_41 := Sta.ext E1 S_cs
    have f_42 := own_staKeep f_41 Kq36 (allS (own_plainE f_4) all0)
    have f_43 := Sta.ext E1 S_d1
    have f_44 := own_staKeep f_43 Kq36 (allS (own_plainE f_4) all0)
    have f_45 := Sta.ext E1 S_d2
    have f_46 := own_staKeep f_45 Kq36 (allS (own_plainE f_4) all0)
    have f_47 := Arv.ext V_d1 E1
    have ne_d1_b1_49 : d1 ≠ b1 := Nat.ne_of_lt (Nat.lt_of_lt_of_le V_d1.lt (Nat.le_of_eq g1.symm))
    have f_48 := Arv.keep f_47 Kq36 (ninS ne_d1_b1_49 nin0)
    have f_50 := Arv.ext V_d2 E1
    have ne_d2_b1_52 : d2 ≠ b1 := Nat.ne_of_lt (Nat.lt_of_lt_of_le V_d2.lt (Nat.le_of_eq g1.symm))
    have f_51 := Arv.keep f_50 Kq36 (ninS ne_d2_b1_52 nin0)
    have f_53 := Sta.ext E1 S_f
    have f_54 := own_staKeep f_53 Kq36 (allS (own_plainE f_4) all0)
    have C55 := C0.trans (CHr.ext E1 C0.1)
    have C56 := C55.trans (CHr.keep Kq36 (sfS (Safe.exa hZ0.alike f_4 (by decide) (by decide)) sf0) C55.1)
    exact key78 (((0 : Int64) + (p0.toInt64))) (((0 : Int64) + (p1.toInt64))) ((1 : Int32)) (T36.heap) _ _ X36 N36 rfl (Z37) (C56) (f_40) (o36_0) (o36_1) (f_39) (o36_3) (o36_4) (f_42) (f_44) (f_46) (f_48) (f_51) (f_54) ((own_sum2 (a := p0) (b := p2) rfl rfl).1) ((own_sum2 (a := p1) (b := p3) rfl rfl).1) (by decide)
  · have he28' : ((p4 &&& (2147483647 : Int32)) % (3 : Int32)) = (2 : Int32) := he28
    rw [he28']
    show Good p e below _ (T10.setTop (mkF m 24 (a_I6RJsJsu6 p0 p1 p2 p3 p4 2 b1 0 0) []))
    refine Good.back (fun _ k => XS.iload X10.here hx rfl (hb hby at_24) rfl k) ?_
    refine Good.back (fun _ k => XS.iconst X10.here hx rfl (hb hby at_26) k) ?_
    refine Good.back (fun _ k => XS.icmpNo X10.here hx rfl (hb hby at_27) rfl (flt (by decide : ¬ ((2 : Int32) < (1 : Int32)))).1 k) ?_
    refine Good.back (fun _ k => XS.aload X10.here hx rfl (hb hby at_30) rfl rfl k) ?_
    refine Good.back (fun _ k => XS.iloadN X10.here hx rfl (hb hby at_32) rfl k) ?_
    refine Good.back (fun _ k => XS.iloadN X10.here hx rfl (hb hby at_33) rfl k) ?_
    show Good p e below _ (T10.setTop (mkF m 34 (a_I6RJsJsu6 p0 p1 p2 p3 p4 2 b1 0 0) [.int p1, .int p0, .ref b1]))
    obtain ⟨cq57, kq57, q57a, q57b, q57c⟩ := isOf hZ0 eh10 f_4
    obtain ⟨_, _, ⟨T57, L57, k57, n57⟩, -, X57, ⟨Lc57, hQ57, l57, y57, z57⟩, st57⟩ := X10.virtualBack hx (y := y_40) (z := y_40) hown0 (mvT hZ0 (wd hw 267 rfl)) (mvT hZ0 (wd hw 268 rfl)) (notFace_of_selects (args := #[]) (mvT hZ0 (wd hw 270 rfl))) (mvT hZ0 (wd hw 270 rfl)) (mvT hZ0 (wd hw 269 rfl)) (by decide) (backOf (W := 0) (rm51 l Z a0 hw [] b1 p0 p1 (0 : Int64) (0 : Int64) (0 : Int32) h1 n0 Z2 f_4 g_b1 f_5 f_9 f_6 f_7 f_8) hZ0 (wd hw 271 rfl) (wd hw 3 rfl) (by decide) (by decide)) q57a q57c (g := (mkF m 34 (a_I6RJsJsu6 p0 p1 p2 p3 p4 2 b1 0 0) [.int p1, .int p0, .ref b1])) rfl (by rw [hml]; rfl) (Steps.refl _) (argsL := [(.int p0), (.int p1)]) (rest := []) (lenOf own_pd19 rfl) rfl (by show 2 * 0 + _ ≤ _; exact Nat.le_of_eq rfl) (hb hby at_34) (fun _ _ => ⟨rfl, eh10, (by decide : 1 + 0 ≤ _), (by decide : 5 + 0 ≤ _)⟩)
    dsimp only [Pt.U, Pt.locs, Pt.cells, Pt.slots] at X57 l57 y57 z57 st57 hQ57
    subst l57 y57 z57
    obtain ⟨rfl, N57q, Kq57, o57_0, o57_1, o57_2, o57_3, o57_4⟩ := hQ57
    have N57 := Fr.app N10 N57q
    have Z58 : n0 ≤ T57.heap.size := Nat.le_trans Z2 Kq57.1
    have hk59 := Nat.le_trans hk3 Kq57.1
    refine Good.back (fun _ k => st57.trans k) ?_
    refine Good.back (fun _ k => XS.lload X57.here hx rfl (hb hby at_37) rfl k) ?_
    refine Good.back (fun _ k => XS.iloadN X57.here hx rfl (hb hby at_39) rfl k) ?_
    refine Good.back (fun _ k => XS.i2l X57.here hx rfl (hb hby at_40) rfl k) ?_
    refine Good.back (fun _ k => XS.ladd X57.here hx rfl (hb hby at_41) rfl k) ?_
    refine Good.back (fun _ k => XS.lstore X57.here hx rfl (hb hby at_42) rfl (l' := (a_I6RJsJsu6 p0 p1 p2 p3 p4 2 b1 ((0 : Int64) + (p0.toInt64)) 0)) rfl k) ?_
    show Good p e below _ (T57.setTop (mkF m 44 (a_I6RJsJsu6 p0 p1 p2 p3 p4 2 b1 ((0 : Int64) + (p0.toInt64)) 0) []))
    refine Good.back (fun _ k => XS.lload X57.here hx rfl (hb hby at_44) rfl k) ?_
    refine Good.back (fun _ k => XS.iloadN X57.here hx rfl (hb hby at_46) rfl k) ?_
    refine Good.back (fun _ k => XS.i2l X57.here hx rfl (hb hby at_47) rfl k) ?_
    refine Good.back (fun _ k => XS.ladd X57.here hx rfl (hb hby at_48) rfl k) ?_
    refine Good.back (fun _ k => XS.lstore X57.here hx rfl (hb hby at_49) rfl (l' := (a_I6RJsJsu6 p0 p1 p2 p3 p4 2 b1 ((0 : Int64) + (p0.toInt64)) ((0 : Int64) + (p1.toInt64)))) rfl k) ?_
    refine Good.back (fun _ k => XS.iload X57.here hx rfl (hb hby at_51) rfl k) ?_
    show Good p e below _ (T57.setTop (mkF m 53 (a_I6RJsJsu6 p0 p1 p2 p3 p4 2 b1 ((0 : Int64) + (p0.toInt64)) ((0 : Int64) + (p1.toInt64))) [.int 2]))
    refine Good.back (fun _ k => XS.iconst X57.here hx rfl (hb hby at_53) k) ?_
    refine Good.back (fun _ k => XS.icmpNo X57.here hx rfl (hb hby at_54) rfl (flt (by decide : ¬ ((2 : Int32) < (2 : Int32)))).1 k) ?_
    refine Good.back (fun _ k => XS.aload X57.here hx rfl (hb hby at_57) rfl rfl k) ?_
    refine Good.back (fun _ k => XS.iloadN X57.here hx rfl (hb hby at_59) rfl k) ?_
    refine Good.back (fun _ k => XS.iloadN X57.here hx rfl (hb hby at_60) rfl k) ?_
    have f_61 := Exa.keep f_4 Kq57
    obtain ⟨cq60, kq60, q60a, q60b, q60c⟩ := isOf hZ0 rfl f_61
    obtain ⟨_, _, ⟨T60, L60, k60, n60⟩, -, X60, ⟨Lc60, hQ60, l60, y60, z60⟩, st60⟩ := X57.virtualBack hx (y := y_40) (z := y_40) hown0 (mvT hZ0 (wd hw 267 rfl)) (mvT hZ0 (wd hw 268 rfl)) (notFace_of_selects (args := #[]) (mvT hZ0 (wd hw 270 rfl))) (mvT hZ0 (wd hw 270 rfl)) (mvT hZ0 (wd hw 269 rfl)) (by decide) (backOf (W := 0) (rm51 l Z a0 hw [] b1 p2 p3 ((0 : Int64) + (p0.toInt64)) ((0 : Int64) + (p1.toInt64)) ((0 : Int32) + (1 : Int32)) T57.heap n0 Z58 f_61 g_b1 o57_0 o57_1 o57_2 o57_3 o57_4) hZ0 (wd hw 271 rfl) (wd hw 3 rfl) (by decide) (by decide)) q60a q60c (g := (mkF m 61 (a_I6RJsJsu6 p0 p1 p2 p3 p4 2 b1 ((0 : Int64) + (p0.toInt64)) ((0 : Int64) + (p1.toInt64))) [.int p3, .int p2, .ref b1])) rfl (by rw [hml]; rfl) (Steps.refl _) (argsL := [(.int p2), (.int p3)]) (rest := []) (lenOf own_pd19 rfl) rfl (by show 2 * 0 + _ ≤ _; exact Nat.le_of_eq rfl) (hb hby at_61) (fun _ _ => ⟨rfl, rfl, (by decide : 1 + 0 ≤ _), (by decide : 5 + 0 ≤ _)⟩)
    dsimp only [Pt.U, Pt.locs, Pt.cells, Pt.slots] at X60 l60 y60 z60 st60 hQ60
    subst l60 y60 z60
    obtain ⟨rfl, N60q, Kq60, o60_0, o60_1, o60_2, o60_3, o60_4⟩ := hQ60
    have N60 := Fr.app N57 N60q
    have Z62 : n0 ≤ T60.heap.size := Nat.le_trans Z58 Kq60.1
    have hk63 := Nat.le_trans hk59 Kq60.1
    refine Good.back (fun _ k => st60.trans k) ?_
    refine Good.back (fun _ k => XS.lload X60.here hx rfl (hb hby at_64) rfl k) ?_
    refine Good.back (fun _ k => XS.iloadN X60.here hx rfl (hb hby at_66) rfl k) ?_
    refine Good.back (fun _ k => XS.i2l X60.here hx rfl (hb hby at_67) rfl k) ?_
    refine Good.back (fun _ k => XS.ladd X60.here hx rfl (hb hby at_68) rfl k) ?_
    refine Good.back (fun _ k => XS.lstore X60.here hx rfl (hb hby at_69) rfl (l' := (a_I6RJsJsu6 p0 p1 p2 p3 p4 2 b1 (((0 : Int64) + (p0.toInt64)) + (p2.toInt64)) ((0 : Int64) + (p1.toInt64)))) rfl k) ?_
    show Good p e below _ (T60.setTop (mkF m 71 (a_I6RJsJsu6 p0 p1 p2 p3 p4 2 b1 (((0 : Int64) + (p0.toInt64)) + (p2.toInt64)) ((0 : Int64) + (p1.toInt64))) []))
    refine Good.back (fun _ k => XS.lload X60.here hx rfl (hb hby at_71) rfl k) ?_
    refine Good.back (fun _ k => XS.iloadN X60.here hx rfl (hb hby at_73) rfl k) ?_
    refine Good.back (fun _ k => XS.i2l X60.here hx rfl (hb hby at_74) rfl k) ?_
    refine Good.back (fun _ k => XS.ladd X60.here hx rfl (hb hby at_75) rfl k) ?_
    refine Good.back (fun _ k => XS.lstore X60.here hx rfl (hb hby at_76) rfl (l' := (a_I6RJsJsu6 p0 p1 p2 p3 p4 2 b1 (((0 : Int64) + (p0.toInt64)) + (p2.toInt64)) (((0 : Int64) + (p1.toInt64)) + (p3.toInt64)))) rfl k) ?_
    have f_64 : Fld Z T60.heap b1 "com/example/liken/liken/cli/IndexSummary" "files" "I" (.int 2) := by have q := o60_2; rw [show (((0 : Int32) + (1 : Int32)) + (1 : Int32)) = (2 : Int32) by decide] at q; exact q
    show Good p e below _ (T60.setTop (mkF m 78 (a_I6RJsJsu6 p0 p1 p2 p3 p4 2 b1 (((0 : Int64) + (p0.toInt64)) + (p2.toInt64)) (((0 : Int64) + (p1.toInt64)) + (p3.toInt64))) []))
    have f_65 := Exa.keep f_61 Kq60
    have f_66 := Sta.ext E1 S_cs
    have f_67 := own_staKeep f_66 Kq57 (allS (own_plainE f_4) all0)
    have f_68 := own_staKeep f_67 Kq60 (allS (own_plainE f_61) all0)
    have f_69 := Sta.ext E1 S_d1
    have f_70 := own_staKeep f_69 Kq57 (allS (own_plainE f_4) all0)
    have f_71 := own_staKeep f_70 Kq60 (allS (own_plainE f_61) all0)
    have f_72 := Sta.ext E1 S_d2
    have f_73 := own_staKeep f_72 Kq57 (allS (own_plainE f_4) all0)
    have f_74 := own_staKeep f_73 Kq60 (allS (own_plainE f_61) all0)
    have f_75 := Arv.ext V_d1 E1
    have ne_d1_b1_77 : d1 ≠ b1 := Nat.ne_of_lt (Nat.lt_of_lt_of_le V_d1.lt (Nat.le_of_eq g1.symm))
    have f_76 := Arv.keep f_75 Kq57 (ninS ne_d1_b1_77 nin0)
    have f_78 := Arv.keep f_76 Kq60 (ninS ne_d1_b1_77 nin0)
    have f_79 := Arv.ext V_d2 E1
    have ne_d2_b1_81 : d2 ≠ b1 := Nat.ne_of_lt (Nat.lt_of_lt_of_le V_d2.lt (Nat.le_of_eq g1.symm))
    have f_80 := Arv.keep f_79 Kq57 (ninS ne_d2_b1_81 nin0)
    have f_82 := Arv.keep f_80 Kq60 (ninS ne_d2_b1_81 nin0)
    have f_83 := Sta.ext E1 S_f
    have f_84 := own_staKeep f_83 Kq57 (allS (own_plainE f_4) all0)
    have f_85 := own_staKeep f_84 Kq60 (allS (own_plainE f_61) all0)
    have C86 := C0.trans (CHr.ext E1 C0.1)
    have C87 := C86.trans (CHr.keep Kq57 (sfS (Safe.exa hZ0.alike f_4 (by decide) (by decide)) sf0) C86.1)
    have C88 := C87.trans (CHr.keep Kq60 (sfS (Safe.exa hZ0.alike f_61 (by decide) (by decide)) sf0) C87.1)
    exact key78 ((((0 : Int64) + (p0.toInt64)) + (p2.toInt64))) ((((0 : Int64) + (p1.toInt64)) + (p3.toInt64))) ((2 : Int32)) (T60.heap) _ _ X60 N60 rfl (Z62) (C88) (f_65) (o60_0) (o60_1) (f_64) (o60_3) (o60_4) (f_68) (f_71) (f_74) (f_78) (f_82) (f_85) ((own_sum2 (a := p0) (b := p2) rfl rfl).2) ((own_sum2 (a := p1) (b := p3) rfl rfl).2) (by decide)
theorem own_allS {P : String × Nat → Prop} {x : String × Nat} {L : List (String × Nat)} (n : P x) (r : ∀ y ∈ L, P y) : ∀ y ∈ x :: L, P y := fun y q => by
  rcases List.mem_cons.mp q with rfl | q
  · exact n
  · exact r y q
set_option maxRecDepth 65536 in
set_option maxHeartbeats 40000000 in
theorem comes_1 {Post : Tables → Env → Array Value → State → Outcome → State → Prop} (hpost : ∀ tb e args s v u, (limb_1_1.after args s (.returned v) u = true ∧ limb_1_2.after args s (.returned v) u = true ∧ True) → ReturnedEndW s (.returned v) u (Jvm.fieldLocs frame_1_writes args s ++ Jvm.arrayLocs frame_1_arrays args s ++ Jvm.staticLocs frame_1_statics s) 40 6976 → Post tb e args s (.returned v) u) :
    ArmFor flags0 classFile x code maxLocals ret World_1 tables_1 room_1 Calls_1 rest_1 Pre_1 Post := by
  intro l hfl _ _ p e ha hc hk s m args below hf hA hF happ hP
  obtain ⟨hcalls, hrest, hpre⟩ := hP
  obtain ⟨-, -, -, hnamed, -, -, -, hat⟩ := (Spec.applies_iff hf).mp happ
  obtain ⟨hg, hn⟩ := and_e (Cond.before_iff.mp (show (Jvm.Cond.and given_1 narrow_1).before args s = true from hpre))
  obtain ⟨g1, g2⟩ := and_e hg
  obtain ⟨g3, g4⟩ := and_e g2
  obtain ⟨g5, g6⟩ := and_e g4
  obtain ⟨g7, g8⟩ := and_e g6
  obtain ⟨g9, g10⟩ := and_e g8
  obtain ⟨w0, w1, w2, w3, w4, rfl⟩ : ∃ w0 w1 w2 w3 w4 : Value, args = #[w0, w1, w2, w3, w4] := by
    have hs : args.size = 5 := by simpa [Cond.value, given_1] using g1
    obtain ⟨L⟩ := args
    match L, hs with
    | [w0, w1, w2, w3, w4], _ => exact ⟨w0, w1, w2, w3, w4, rfl⟩
  have hw := fun d (hd : d ∈ tables_1) => atoms_spec (ws := Jvm.Cond.code x code maxLocals ret :: tables_1) hat d (List.mem_cons_of_mem _ hd)
  have hfit : Fit s := fun {y c} hc i hi => by
    obtain ⟨ha, rfl⟩ := Array.getElem?_eq_some_iff.mp hc
    have q := List.all_eq_true.mp ((Array.all_eq_true_iff_forall_mem.mp hF) _ (Array.getElem_mem ha)) i (List.mem_range.mpr hi)
    simpa [Array.getElem?_eq_getElem hi] using q
  obtain ⟨hsets, hown0⟩ := atoms_of _ (rest_1_c_eq ▸ (show rest_1_c.before _ s = true from hrest))
  have hr0 := Cond.before_iff.mp hown0
  obtain ⟨i0, ei0⟩ := is_v g3
  obtain rfl : w0 = (.int i0) := Option.some.inj ei0
  obtain ⟨i1, ei1⟩ := is_v g5
  obtain rfl : w1 = (.int i1) := Option.some.inj ei1
  obtain ⟨i2, ei2⟩ := is_v g7
  obtain rfl : w2 = (.int i2) := Option.some.inj ei2
  obtain ⟨i3, ei3⟩ := is_v g9
  obtain rfl : w3 = (.int i3) := Option.some.inj ei3
  obtain ⟨i4, ei4⟩ := is_v g10
  obtain rfl : w4 = (.int i4) := Option.some.inj ei4
  have qcs1 := Cond.before_iff.mp (hsets _ (List.mem_of_getElem? (i := 1) rfl))
  obtain ⟨cs, ecs⟩ := is_v qcs1
  have qcs2 := not_v (Cond.before_iff.mp (hsets _ (List.mem_of_getElem? (i := 2) rfl)))
  have hcs : ¬ (cs = (0 : Int32)) := own_neI qcs2 ecs
  have S_cs : Sta s s.heap "java/lang/String" "COMPACT_STRINGS" "Z" (.int cs) := Sta.start ecs (Or.inl (hsets _ (List.mem_of_getElem? (i := 0) rfl)))
  obtain ⟨d1, ed1⟩ := exa_v (Cond.before_iff.mp (hsets _ (List.mem_of_getElem? (i := 12) rfl)))
  have S_d1 : Sta s s.heap "java/lang/Integer" "DigitOnes" "[B" (.ref d1) := Sta.start ed1 (Or.inl (hsets _ (List.mem_of_getElem? (i := 11) rfl)))
  obtain ⟨kd1, V_d1⟩ := own_tblV (fn := fun j => Int32.ofNat (48 + j % 10)) hfit (wd hw 31 rfl) ed1 (Cond.before_iff.mp (hsets _ (List.mem_of_getElem? (i := 12) rfl))) (Cond.before_iff.mp (hsets _ (List.mem_of_getElem? (i := 13) rfl))) (Cond.before_iff.mp (hsets _ (List.mem_of_getElem? (i := 14) rfl))) (fun j hj => (own_addF (x := 48) rfl (rem_f (x := Int32.ofNat j) (y := 10) rfl rfl (by decide))).trans (by rw [own_tbl1 j hj])) (fun j hj z => own_onesAt hj z)
  obtain ⟨d2, ed2⟩ := exa_v (Cond.before_iff.mp (hsets _ (List.mem_of_getElem? (i := 17) rfl)))
  have S_d2 : Sta s s.heap "java/lang/Integer" "DigitTens" "[B" (.ref d2) := Sta.start ed2 (Or.inl (hsets _ (List.mem_of_getElem? (i := 16) rfl)))
  obtain ⟨kd2, V_d2⟩ := own_tblV (fn := fun j => Int32.ofNat (48 + j / 10)) hfit (wd hw 31 rfl) ed2 (Cond.before_iff.mp (hsets _ (List.mem_of_getElem? (i := 17) rfl))) (Cond.before_iff.mp (hsets _ (List.mem_of_getElem? (i := 18) rfl))) (Cond.before_iff.mp (hsets _ (List.mem_of_getElem? (i := 19) rfl))) (fun j hj => (own_addF (x := 48) rfl (div_f (x := Int32.ofNat j) (y := 10) rfl rfl (by decide))).trans (by rw [own_tbl2 j hj])) (fun j hj z => own_tensAt hj z)
  obtain ⟨vf, evf, rvf⟩ := isR_v (Cond.before_iff.mp (hsets _ (List.mem_of_getElem? (i := 8) rfl)))
  have S_f : Sta s s.heap "jdk/internal/util/Preconditions" "SIOOBE_FORMATTER" "Ljava/util/function/BiFunction;" vf := Sta.start evf (Or.inl (hsets _ (List.mem_of_getElem? (i := 7) rfl)))
  have hfm : vf = .null ∨ ∃ a : Addr, vf = .ref a := by cases vf with
    | ref a => exact Or.inr ⟨a, rfl⟩
    | null => exact Or.inl rfl
    | _ => exact absurd (show false = true from rvf) (by decide)
  obtain ⟨n, o, h1, h2, h3, _, L, rfl, ⟨rfl, N⟩, -, hq⟩ := rm0 l s _ hw tables_1 i0 i1 i2 i3 i4 cs d1 d2 kd1 kd2 vf s.heap s.heap.size (Nat.le_refl _) S_cs hcs S_d1 S_d2 V_d1 V_d2 S_f hfm p e ha hc hk s m _ below hf ((Spec.applies_iff_loose hf).mp happ).1 ⟨rfl, State.Warmed39.refl s, rfl, CHv.start (own_EW hw) (own_allS (hcalls.1 _ (List.mem_of_getElem? (i := 0) rfl)) (own_allS (hcalls.1 _ (List.mem_of_getElem? (i := 1) rfl)) (own_allS (hcalls.1 _ (List.mem_of_getElem? (i := 2) rfl)) (own_allS (hcalls.1 _ (List.mem_of_getElem? (i := 3) rfl)) (own_allS (hcalls.1 _ (List.mem_of_getElem? (i := 4) rfl)) (own_allS (hcalls.1 _ (List.mem_of_getElem? (i := 5) rfl)) (fun _ q => nomatch q))))))) (hsets _ (List.mem_of_getElem? (i := 2) rfl)) (wd hw 31 rfl) (wd hw 37 rfl)⟩ trivial
  refine ⟨n, _, h1, h2, h3, hpost _ _ _ _ _ _ ⟨Cond.after_iff.mpr rfl, Cond.after_iff.mpr (eq_i res_at (Term.int_eval (1)) rfl), trivial⟩ ⟨hq.1, hq.2.1, hq.2.2.1, (hq.2.2.2.sift fun y hy => Or.inr (N y hy)).mono (by decide) (by decide)⟩⟩
theorem main_1_1 : Claimed_1_1 := comes_1 fun _ _ _ _ _ _ h hF => ⟨h.1, hF⟩
theorem main_1_2 : Claimed_1_2 := comes_1 fun _ _ _ _ _ _ h hF => ⟨h.2.1, hF⟩
end Jvm.Pilot.@@N@@
namespace Jvm.Pilot.@@N@@
open Jvm Jvm.ClassFile Sem Op Lib Jvm.Free Jvm.Stand Jvm.Pilot.@@N@@.Jvm.D
/-! MADE BY PROGRAM (witnessworld.py) out of the Statement's table words and the real class files: 26 classes; the members and pool entries that the words name. The judged class is class 1, her method 4. -/
namespace start1
open Jvm.ClassFile
def u (s : String) : CpInfo := .utf8 (stringToUtf16 s)
/-- a pool by its gaps: so many unusable entries, then the entry; so many at the end -/
def gap : Nat → List CpInfo → List CpInfo
  | 0, r => r
  | n + 1, r => .unusable :: gap n r
def poolList (es : List (Nat × CpInfo)) (last : Nat) : List CpInfo := es.foldr (fun e r => gap e.1 (e.2 :: r)) (gap last [])
def pool (es : List (Nat × CpInfo)) (last : Nat) : Array CpInfo := ⟨poolList es last⟩
def fileOf (pool : Array CpInfo) (this : Nat) (attrs : Array Attribute := #[]) (ms : Array MethodInfo := #[]) (fl : Nat := 33) (sup : Nat := 0) (ifs : Array Nat := #[]) (fds : Array FieldInfo := #[]) : ClassFile where
  minorVersion := 0
  majorVersion := 65
  constantPool := pool
  accessFlags := fl
  thisClass := this
  superClass := sup
  interfaces := ifs
  fields := fds
  methods := ms
  attributes := attrs
def plain (name : String) (sup : Option ClassId) : Class where
  name := name
  kind := .ordinary
  loader := none
  accessFlags := 33
  super := sup
  interfaces := #[]
  cf := none
  fields := #[]
  methods := #[]
  instanceTypes := #[]
  staticTypes := #[]
  resolved := #[]
  callSites := []
  init := .initialized
  statics := none
  mirror := none

def pool0 : Array CpInfo := pool [(5, u "<init>"), (0, u "()V"), (1, .class_ 10), (1, u "java/lang/Object"), (85, u "clone"), (0, u "()Ljava/lang/Object;")] 26

def k0c0 : Code := { maxStack := 0, maxLocals := 1, code := object_method_1_code, exceptionTable := #[], attributes := #[] }
def k0m0 : Method := { name := "<init>", desc := "()V", sig := { parameters := [], returnType := none }, accessFlags := 1, code := some k0c0 }
def k0m1 : Method := { name := "clone", desc := "()Ljava/lang/Object;", sig := { parameters := [], returnType := some (.object "java/lang/Object") }, accessFlags := 260, code := none }
/-- java/lang/Object -/
def k0 : Class := { plain "java/lang/Object" none with
  accessFlags := 33
  interfaces := #[]
  cf := some (fileOf pool0 8 #[] #[{ accessFlags := 1, nameIndex := 5, descriptorIndex := 6, attributes := #[] }, { accessFlags := 260, nameIndex := 96, descriptorIndex := 97, attributes := #[] }] 33 0 #[] #[])
  fields := #[]
  methods := #[k0m0, k0m1]
  instanceTypes := #[]
  staticTypes := #[]
  resolved := Array.replicate 124 none
  statics := none }

def pool1 : Array CpInfo := pool [(2, .class_ 4), (0, .nameAndType 5 6), (0, u "java/lang/Object"), (0, u "<init>"), (0, u "()V"), (0, .long 10), (1, .long 100), (1, .long 1000), (1, .long 10000), (1, .long 100000), (1, .long 1000000), (1, .long 10000000), (1, .long 100000000), (1, .long 1000000000), (1, .methodref 26 27), (0, .class_ 28), (0, .nameAndType 29 30), (0, u "com/example/liken/liken/cli/IndexSummaryIndexedPinLaw"), (0, u "digits"), (0, u "(J)I"), (0, .methodref 32 33), (0, .class_ 34), (0, .nameAndType 35 36), (0, u "java/lang/String"), (0, u "charAt"), (0, u "(I)C"), (0, .integer 2147483647), (0, .class_ 39), (0, u "com/example/liken/liken/cli/IndexSummary"), (0, .methodref 38 3), (0, .methodref 38 42), (0, .nameAndType 43 44), (0, u "indexed"), (0, u "(II)V"), (0, .methodref 38 46), (0, .nameAndType 47 48), (0, u "lines"), (0, u "(J)Ljava/lang/String;"), (0, .methodref 26 50), (0, .nameAndType 51 30), (0, u "len"), (0, .methodref 32 53), (0, .nameAndType 54 55), (0, u "length"), (0, u "()I"), (0, .methodref 26 57), (0, .nameAndType 58 59), (0, u "num"), (0, u "(Ljava/lang/String;IJ)Z"), (3, u "law"), (0, u "(IIIII)Z")] 2

def k1m0 : Method := { name := "<init>", desc := "()V", sig := { parameters := [], returnType := none }, accessFlags := 1, code := none }
def k1c1 : Code := { maxStack := 4, maxLocals := 2, code := method_2_code, exceptionTable := #[], attributes := #[] }
def k1m1 : Method := { name := "digits", desc := "(J)I", sig := { parameters := [.long], returnType := some .int }, accessFlags := 10, code := some k1c1 }
def k1c2 : Code := { maxStack := 4, maxLocals := 4, code := method_3_code, exceptionTable := #[], attributes := #[] }
def k1m2 : Method := { name := "len", desc := "(J)I", sig := { parameters := [.long], returnType := some .int }, accessFlags := 10, code := some k1c2 }
def k1c3 : Code := { maxStack := 6, maxLocals := 10, code := method_4_code, exceptionTable := #[], attributes := #[] }
def k1m3 : Method := { name := "num", desc := "(Ljava/lang/String;IJ)Z", sig := { parameters := [(.object "java/lang/String"), .int, .long], returnType := some .boolean }, accessFlags := 10, code := some k1c3 }
def k1c4 : Code := { maxStack := 4, maxLocals := 17, code := code, exceptionTable := #[], attributes := #[] }
def k1m4 : Method := { name := "law", desc := "(IIIII)Z", sig := { parameters := [.int, .int, .int, .int, .int], returnType := some .boolean }, accessFlags := 9, code := some k1c4 }
/-- com/example/liken/liken/cli/IndexSummaryIndexedPinLaw -/
def k1 : Class := { plain "com/example/liken/liken/cli/IndexSummaryIndexedPinLaw" (some 0) with
  accessFlags := 49
  interfaces := #[]
  cf := some (fileOf pool1 26 #[] #[{ accessFlags := 1, nameIndex := 5, descriptorIndex := 6, attributes := #[] }, { accessFlags := 10, nameIndex := 29, descriptorIndex := 30, attributes := #[] }, { accessFlags := 10, nameIndex := 51, descriptorIndex := 30, attributes := #[] }, { accessFlags := 10, nameIndex := 58, descriptorIndex := 59, attributes := #[] }, { accessFlags := 9, nameIndex := 63, descriptorIndex := 64, attributes := #[] }] 49 2 #[] #[])
  fields := #[]
  methods := #[k1m0, k1m1, k1m2, k1m3, k1m4]
  instanceTypes := #[]
  staticTypes := #[]
  resolved := Array.replicate 67 none
  statics := none }

def pool2 : Array CpInfo := pool [(1, .class_ 2), (0, u "com/example/liken/liken/cli/IndexSummary"), (0, .methodref 4 5), (0, .class_ 6), (0, .nameAndType 7 8), (0, u "java/lang/Object"), (0, u "<init>"), (0, u "()V"), (0, .fieldref 1 10), (0, .nameAndType 11 12), (0, u "fragments"), (0, u "J"), (0, .fieldref 1 14), (0, .nameAndType 15 12), (0, u "lines"), (0, .fieldref 1 17), (0, .nameAndType 18 19), (0, u "files"), (0, u "I"), (0, .fieldref 1 21), (0, .nameAndType 22 19), (0, u "skipped"), (0, .fieldref 1 24), (0, .nameAndType 25 19), (0, u "unreadable"), (0, .class_ 27), (0, u "java/lang/StringBuilder"), (0, .methodref 26 5), (0, .string 30), (0, u "indexed "), (0, .methodref 26 32), (0, .nameAndType 33 34), (0, u "append"), (0, u "(Ljava/lang/String;)Ljava/lang/StringBuilder;"), (0, .methodref 26 36), (0, .nameAndType 33 37), (0, u "(J)Ljava/lang/StringBuilder;"), (0, .string 39), (0, u " fragments from "), (0, .methodref 26 41), (0, .nameAndType 33 42), (0, u "(I)Ljava/lang/StringBuilder;"), (0, .string 44), (0, u " files\n"), (4, .methodref 50 51), (0, .class_ 52), (0, .nameAndType 53 54), (0, u "java/lang/Math"), (0, u "max"), (0, u "(JJ)J"), (0, .long 50000000), (1, .long 100000000), (1, .long 1000000000), (1, .methodref 50 62), (0, .nameAndType 63 54), (0, u "multiplyExact"), (0, .string 65), (0, u "elapsed "), (0, .long 10), (1, .methodref 26 69), (0, .nameAndType 33 70), (0, u "(C)Ljava/lang/StringBuilder;"), (0, .string 72), (0, u " s, "), (0, .string 74), (0, u " lines/s\n"), (0, .methodref 26 76), (0, .nameAndType 77 78), (0, u "toString"), (0, u "()Ljava/lang/String;"), (0, u "NANOS_PER_SECOND"), (1, u "NANOS_PER_TENTH"), (2, u "indexed"), (0, u "(II)V"), (0, u "(J)Ljava/lang/String;")] 3

def k2c0 : Code := { maxStack := 1, maxLocals := 1, code := prog_3_method_1_code, exceptionTable := #[], attributes := #[] }
def k2m0 : Method := { name := "<init>", desc := "()V", sig := { parameters := [], returnType := none }, accessFlags := 0, code := some k2c0 }
def k2c1 : Code := { maxStack := 5, maxLocals := 3, code := prog_3_method_2_code, exceptionTable := #[], attributes := #[] }
def k2m1 : Method := { name := "indexed", desc := "(II)V", sig := { parameters := [.int, .int], returnType := none }, accessFlags := 0, code := some k2c1 }
def k2c2 : Code := { maxStack := 5, maxLocals := 10, code := prog_3_method_5_code, exceptionTable := #[], attributes := #[] }
def k2m2 : Method := { name := "lines", desc := "(J)Ljava/lang/String;", sig := { parameters := [.long], returnType := some (.object "java/lang/String") }, accessFlags := 0, code := some k2c2 }
/-- com/example/liken/liken/cli/IndexSummary -/
def k2 : Class := { plain "com/example/liken/liken/cli/IndexSummary" (some 0) with
  accessFlags := 48
  interfaces := #[]
  cf := some (fileOf pool2 1 #[] #[{ accessFlags := 0, nameIndex := 7, descriptorIndex := 8, attributes := #[] }, { accessFlags := 0, nameIndex := 84, descriptorIndex := 85, attributes := #[] }, { accessFlags := 0, nameIndex := 15, descriptorIndex := 86, attributes := #[] }] 48 4 #[] #[{ accessFlags := 26, nameIndex := 79, descriptorIndex := 12, attributes := #[] }, { accessFlags := 26, nameIndex := 81, descriptorIndex := 12, attributes := #[] }, { accessFlags := 2, nameIndex := 11, descriptorIndex := 12, attributes := #[] }, { accessFlags := 2, nameIndex := 18, descriptorIndex := 19, attributes := #[] }, { accessFlags := 2, nameIndex := 22, descriptorIndex := 19, attributes := #[] }, { accessFlags := 2, nameIndex := 25, descriptorIndex := 19, attributes := #[] }, { accessFlags := 2, nameIndex := 15, descriptorIndex := 12, attributes := #[] }])
  fields := #[{ name := "NANOS_PER_SECOND", type := .long, accessFlags := 26, slot := 0, constantValue := 0 }, { name := "NANOS_PER_TENTH", type := .long, accessFlags := 26, slot := 1, constantValue := 0 }, { name := "fragments", type := .long, accessFlags := 2, slot := 0, constantValue := 0 }, { name := "files", type := .int, accessFlags := 2, slot := 1, constantValue := 0 }, { name := "skipped", type := .int, accessFlags := 2, slot := 2, constantValue := 0 }, { name := "unreadable", type := .int, accessFlags := 2, slot := 3, constantValue := 0 }, { name := "lines", type := .long, accessFlags := 2, slot := 4, constantValue := 0 }]
  methods := #[k2m0, k2m1, k2m2]
  instanceTypes := #[.long, .int, .int, .int, .long]
  staticTypes := #[.long, .long]
  resolved := Array.replicate 90 none
  statics := none }

def pool3 : Array CpInfo := pool [(1, .class_ 2), (0, u "java/lang/Appendable"), (0, .class_ 4), (0, u "java/lang/Object")] 9

/-- java/lang/Appendable -/
def k3 : Class := { plain "java/lang/Appendable" (some 0) with
  accessFlags := 1537
  interfaces := #[]
  cf := some (fileOf pool3 1 #[] #[] 1537 3 #[] #[])
  fields := #[]
  methods := #[]
  instanceTypes := #[]
  staticTypes := #[]
  resolved := Array.replicate 14 none
  statics := none }

def pool4 : Array CpInfo := pool [(2, .class_ 4), (1, u "java/lang/CharSequence"), (42, .class_ 48), (0, u "java/lang/CharSequence$1CodePointIterator"), (10, .class_ 60), (0, u "java/lang/CharSequence$1CharIterator"), (5, .class_ 67), (0, u "java/lang/Object")] 63

/-- java/lang/CharSequence -/
def k4 : Class := { plain "java/lang/CharSequence" (some 0) with
  accessFlags := 1537
  interfaces := #[]
  cf := some (fileOf pool4 2 #[.nestMembers #[47, 59]] #[] 1537 66 #[] #[])
  fields := #[]
  methods := #[]
  instanceTypes := #[]
  staticTypes := #[]
  resolved := Array.replicate 131 none
  statics := none }

def pool5 : Array CpInfo := pool [(1, .class_ 2), (0, u "java/lang/String"), (0, .methodref 4 5), (0, .class_ 6), (0, .nameAndType 7 8), (0, u "java/lang/Object"), (0, u "<init>"), (0, u "()V"), (1, .class_ 12), (1, u "java/lang/AbstractStringBuilder"), (0, u "EMPTYVALUE"), (0, u "[B"), (0, .fieldref 10 16), (0, .nameAndType 17 14), (0, u "value"), (0, .fieldref 1 19), (0, .nameAndType 20 21), (0, u "COMPACT_STRINGS"), (0, u "Z"), (0, .fieldref 10 23), (0, .nameAndType 24 25), (0, u "coder"), (0, u "B"), (6, .methodref 1 33), (0, .nameAndType 34 35), (0, u "length"), (0, u "()I"), (0, .class_ 37), (0, u "java/lang/Integer"), (1, .integer 2147483647), (0, .methodref 1 41), (0, .nameAndType 24 42), (0, u "()B"), (2, u "append"), (0, u "(Ljava/lang/String;)Ljava/lang/AbstractStringBuilder;"), (1, .class_ 49), (0, u "java/lang/CharSequence"), (19, u "(Ljava/lang/String;)V"), (5, u "maybeLatin1"), (3, .fieldref 10 80), (0, .nameAndType 81 82), (0, u "count"), (0, u "I"), (0, .methodref 10 84), (0, .nameAndType 85 86), (0, u "isLatin1"), (0, u "()Z"), (1, .class_ 90), (1, u "java/lang/StringLatin1"), (9, .methodref 10 101), (0, .nameAndType 102 103), (0, u "ensureCapacityInternal"), (0, u "(I)V"), (0, .methodref 10 105), (0, .nameAndType 106 107), (0, u "newCapacity"), (0, u "(I)I"), (0, .methodref 109 110), (0, .class_ 111), (0, .nameAndType 112 113), (0, u "java/util/Arrays"), (0, u "copyOf"), (0, u "([BI)[B"), (0, .methodref 115 116), (0, .class_ 117), (0, .nameAndType 118 119), (0, u "jdk/internal/util/ArraysSupport"), (0, u "newLength"), (0, u "(III)I"), (68, u "getChars"), (2, .methodref 88 192), (0, .nameAndType 193 194), (0, u "canEncode"), (0, u "(C)Z"), (13, .methodref 10 209), (0, .nameAndType 210 211), (0, u "putStringAt"), (0, u "(ILjava/lang/String;)V"), (5, u "inflateIfNeededFor"), (2, .nameAndType 221 222), (0, u "getBytes"), (0, u "([BIB)V"), (22, .methodref 36 246), (0, .nameAndType 247 107), (0, u "stringSize"), (0, .methodref 36 249), (0, .nameAndType 188 250), (0, u "(II[B)I"), (3, .methodref 255 256), (0, .class_ 257), (0, .nameAndType 247 258), (0, u "java/lang/Long"), (0, u "(J)I"), (0, .methodref 255 260), (0, .nameAndType 188 261), (0, u "(JI[B)I"), (30, u "(C)Ljava/lang/AbstractStringBuilder;"), (104, .methodref 10 398), (0, .nameAndType 217 69), (0, .methodref 1 220), (3, u "()[B"), (40, .class_ 445), (0, u "java/lang/Appendable"), (65, u "(I)Ljava/lang/AbstractStringBuilder;"), (1, u "(J)Ljava/lang/AbstractStringBuilder;"), (38, u "getValue")] 56

def k5m0 : Method := { name := "<init>", desc := "()V", sig := { parameters := [], returnType := none }, accessFlags := 0, code := none }
def k5c1 : Code := { maxStack := 2, maxLocals := 2, code := jdk_68_method_2_code, exceptionTable := #[], attributes := #[] }
def k5m1 : Method := { name := "<init>", desc := "(I)V", sig := { parameters := [.int], returnType := none }, accessFlags := 0, code := some k5c1 }
def k5c2 : Code := { maxStack := 1, maxLocals := 1, code := jdk_68_method_6_code, exceptionTable := #[], attributes := #[] }
def k5m2 : Method := { name := "length", desc := "()I", sig := { parameters := [], returnType := some .int }, accessFlags := 1, code := some k5c2 }
def k5c3 : Code := { maxStack := 4, maxLocals := 3, code := jdk_68_method_9_code, exceptionTable := #[], attributes := #[] }
def k5m3 : Method := { name := "ensureCapacityInternal", desc := "(I)V", sig := { parameters := [.int], returnType := none }, accessFlags := 2, code := some k5c3 }
def k5c4 : Code := { maxStack := 5, maxLocals := 6, code := jdk_68_method_10_code, exceptionTable := #[], attributes := #[] }
def k5m4 : Method := { name := "newCapacity", desc := "(I)I", sig := { parameters := [.int], returnType := some .int }, accessFlags := 2, code := some k5c4 }
def k5c5 : Code := { maxStack := 3, maxLocals := 3, code := jdk_68_method_22_code, exceptionTable := #[], attributes := #[] }
def k5m5 : Method := { name := "append", desc := "(Ljava/lang/String;)Ljava/lang/AbstractStringBuilder;", sig := { parameters := [(.object "java/lang/String")], returnType := some (.object "java/lang/AbstractStringBuilder") }, accessFlags := 1, code := some k5c5 }
def k5c6 : Code := { maxStack := 5, maxLocals := 2, code := jdk_68_method_31_code, exceptionTable := #[], attributes := #[] }
def k5m6 : Method := { name := "append", desc := "(C)Ljava/lang/AbstractStringBuilder;", sig := { parameters := [.char], returnType := some (.object "java/lang/AbstractStringBuilder") }, accessFlags := 1, code := some k5c6 }
def k5c7 : Code := { maxStack := 4, maxLocals := 4, code := jdk_68_method_32_code, exceptionTable := #[], attributes := #[] }
def k5m7 : Method := { name := "append", desc := "(I)Ljava/lang/AbstractStringBuilder;", sig := { parameters := [.int], returnType := some (.object "java/lang/AbstractStringBuilder") }, accessFlags := 1, code := some k5c7 }
def k5c8 : Code := { maxStack := 5, maxLocals := 5, code := jdk_68_method_33_code, exceptionTable := #[], attributes := #[] }
def k5m8 : Method := { name := "append", desc := "(J)Ljava/lang/AbstractStringBuilder;", sig := { parameters := [.long], returnType := some (.object "java/lang/AbstractStringBuilder") }, accessFlags := 1, code := some k5c8 }
def k5c9 : Code := { maxStack := 1, maxLocals := 1, code := jdk_68_method_64_code, exceptionTable := #[], attributes := #[] }
def k5m9 : Method := { name := "getValue", desc := "()[B", sig := { parameters := [], returnType := some (.array .byte) }, accessFlags := 16, code := some k5c9 }
def k5c10 : Code := { maxStack := 1, maxLocals := 1, code := jdk_68_method_68_code, exceptionTable := #[], attributes := #[] }
def k5m10 : Method := { name := "isLatin1", desc := "()Z", sig := { parameters := [], returnType := some .boolean }, accessFlags := 16, code := some k5c10 }
def k5c11 : Code := { maxStack := 2, maxLocals := 2, code := jdk_68_method_71_code, exceptionTable := #[], attributes := #[] }
def k5m11 : Method := { name := "inflateIfNeededFor", desc := "(Ljava/lang/String;)V", sig := { parameters := [(.object "java/lang/String")], returnType := none }, accessFlags := 2, code := some k5c11 }
def k5c12 : Code := { maxStack := 4, maxLocals := 3, code := jdk_68_method_73_code, exceptionTable := #[], attributes := #[] }
def k5m12 : Method := { name := "putStringAt", desc := "(ILjava/lang/String;)V", sig := { parameters := [.int, (.object "java/lang/String")], returnType := none }, accessFlags := 2, code := some k5c12 }
/-- java/lang/AbstractStringBuilder -/
def k5 : Class := { plain "java/lang/AbstractStringBuilder" (some 0) with
  accessFlags := 1056
  interfaces := #[3, 4]
  cf := some (fileOf pool5 10 #[] #[{ accessFlags := 0, nameIndex := 7, descriptorIndex := 8, attributes := #[] }, { accessFlags := 0, nameIndex := 7, descriptorIndex := 103, attributes := #[] }, { accessFlags := 1, nameIndex := 34, descriptorIndex := 35, attributes := #[] }, { accessFlags := 2, nameIndex := 102, descriptorIndex := 103, attributes := #[] }, { accessFlags := 2, nameIndex := 106, descriptorIndex := 107, attributes := #[] }, { accessFlags := 1, nameIndex := 45, descriptorIndex := 46, attributes := #[] }, { accessFlags := 1, nameIndex := 45, descriptorIndex := 292, attributes := #[] }, { accessFlags := 1, nameIndex := 45, descriptorIndex := 511, attributes := #[] }, { accessFlags := 1, nameIndex := 45, descriptorIndex := 513, attributes := #[] }, { accessFlags := 16, nameIndex := 552, descriptorIndex := 403, attributes := #[] }, { accessFlags := 16, nameIndex := 85, descriptorIndex := 86, attributes := #[] }, { accessFlags := 2, nameIndex := 217, descriptorIndex := 69, attributes := #[] }, { accessFlags := 2, nameIndex := 210, descriptorIndex := 211, attributes := #[] }] 1056 4 #[444, 48] #[{ accessFlags := 0, nameIndex := 17, descriptorIndex := 14, attributes := #[] }, { accessFlags := 0, nameIndex := 24, descriptorIndex := 25, attributes := #[] }, { accessFlags := 0, nameIndex := 75, descriptorIndex := 21, attributes := #[] }, { accessFlags := 0, nameIndex := 81, descriptorIndex := 82, attributes := #[] }, { accessFlags := 26, nameIndex := 13, descriptorIndex := 14, attributes := #[] }])
  fields := #[{ name := "value", type := (.array .byte), accessFlags := 0, slot := 0, constantValue := 0 }, { name := "coder", type := .byte, accessFlags := 0, slot := 1, constantValue := 0 }, { name := "maybeLatin1", type := .boolean, accessFlags := 0, slot := 2, constantValue := 0 }, { name := "count", type := .int, accessFlags := 0, slot := 3, constantValue := 0 }, { name := "EMPTYVALUE", type := (.array .byte), accessFlags := 26, slot := 0, constantValue := 0 }]
  methods := #[k5m0, k5m1, k5m2, k5m3, k5m4, k5m5, k5m6, k5m7, k5m8, k5m9, k5m10, k5m11, k5m12]
  instanceTypes := #[(.array .byte), .byte, .boolean, .int]
  staticTypes := #[(.array .byte)]
  resolved := Array.replicate 609 none
  statics := none }

def pool6 : Array CpInfo := pool [(1, .class_ 2), (0, u "java/io/Serializable"), (0, .class_ 4), (0, u "java/lang/Object")] 2

/-- java/io/Serializable -/
def k6 : Class := { plain "java/io/Serializable" (some 0) with
  accessFlags := 1537
  interfaces := #[]
  cf := some (fileOf pool6 1 #[] #[] 1537 3 #[] #[])
  fields := #[]
  methods := #[]
  instanceTypes := #[]
  staticTypes := #[]
  resolved := Array.replicate 7 none
  statics := none }

def pool7 : Array CpInfo := pool [(1, .class_ 2), (0, u "java/lang/Comparable"), (0, .class_ 4), (0, u "java/lang/Object")] 7

/-- java/lang/Comparable -/
def k7 : Class := { plain "java/lang/Comparable" (some 0) with
  accessFlags := 1537
  interfaces := #[]
  cf := some (fileOf pool7 1 #[] #[] 1537 3 #[] #[])
  fields := #[]
  methods := #[]
  instanceTypes := #[]
  staticTypes := #[]
  resolved := Array.replicate 12 none
  statics := none }

def pool8 : Array CpInfo := pool [(1, .methodref 2 3), (0, .class_ 4), (0, .nameAndType 5 6), (0, u "java/lang/AbstractStringBuilder"), (0, u "<init>"), (0, u "(I)V"), (11, .class_ 20), (1, u "java/lang/String"), (3, .class_ 26), (1, u "java/lang/StringBuilder"), (0, u "append"), (0, u "(Ljava/lang/String;)Ljava/lang/StringBuilder;"), (0, .methodref 2 30), (0, .nameAndType 27 31), (0, u "(Ljava/lang/String;)Ljava/lang/AbstractStringBuilder;"), (18, .methodref 2 51), (0, .nameAndType 27 52), (0, u "(C)Ljava/lang/AbstractStringBuilder;"), (0, .methodref 2 54), (0, .nameAndType 27 55), (0, u "(I)Ljava/lang/AbstractStringBuilder;"), (0, .methodref 2 57), (0, .nameAndType 27 58), (0, u "(J)Ljava/lang/AbstractStringBuilder;"), (78, .methodref 18 138), (0, .nameAndType 5 139), (0, u "(Ljava/lang/StringBuilder;)V"), (5, u "()V"), (10, u "()I"), (111, u "(I)Ljava/lang/StringBuilder;"), (12, u "(J)Ljava/lang/StringBuilder;"), (4, u "(C)Ljava/lang/StringBuilder;"), (56, .methodref 2 344), (0, .nameAndType 345 156), (0, u "length"), (3, .class_ 350), (0, u "java/lang/Appendable"), (0, .class_ 352), (0, u "java/io/Serializable"), (0, .class_ 354), (0, u "java/lang/Comparable"), (0, .class_ 356), (0, u "java/lang/CharSequence"), (0, u "serialVersionUID"), (0, u "J"), (40, u "toString"), (0, u "()Ljava/lang/String;")] 21

def k8c0 : Code := { maxStack := 2, maxLocals := 1, code := jdk_67_method_1_code, exceptionTable := #[], attributes := #[] }
def k8m0 : Method := { name := "<init>", desc := "()V", sig := { parameters := [], returnType := none }, accessFlags := 1, code := some k8c0 }
def k8c1 : Code := { maxStack := 2, maxLocals := 2, code := jdk_67_method_7_code, exceptionTable := #[], attributes := #[] }
def k8m1 : Method := { name := "append", desc := "(Ljava/lang/String;)Ljava/lang/StringBuilder;", sig := { parameters := [(.object "java/lang/String")], returnType := some (.object "java/lang/StringBuilder") }, accessFlags := 1, code := some k8c1 }
def k8c2 : Code := { maxStack := 2, maxLocals := 2, code := jdk_67_method_14_code, exceptionTable := #[], attributes := #[] }
def k8m2 : Method := { name := "append", desc := "(C)Ljava/lang/StringBuilder;", sig := { parameters := [.char], returnType := some (.object "java/lang/StringBuilder") }, accessFlags := 1, code := some k8c2 }
def k8c3 : Code := { maxStack := 2, maxLocals := 2, code := jdk_67_method_15_code, exceptionTable := #[], attributes := #[] }
def k8m3 : Method := { name := "append", desc := "(I)Ljava/lang/StringBuilder;", sig := { parameters := [.int], returnType := some (.object "java/lang/StringBuilder") }, accessFlags := 1, code := some k8c3 }
def k8c4 : Code := { maxStack := 3, maxLocals := 3, code := jdk_67_method_16_code, exceptionTable := #[], attributes := #[] }
def k8m4 : Method := { name := "append", desc := "(J)Ljava/lang/StringBuilder;", sig := { parameters := [.long], returnType := some (.object "java/lang/StringBuilder") }, accessFlags := 1, code := some k8c4 }
def k8c5 : Code := { maxStack := 3, maxLocals := 1, code := jdk_67_method_42_code, exceptionTable := #[], attributes := #[] }
def k8m5 : Method := { name := "toString", desc := "()Ljava/lang/String;", sig := { parameters := [], returnType := some (.object "java/lang/String") }, accessFlags := 1, code := some k8c5 }
def k8c6 : Code := { maxStack := 1, maxLocals := 1, code := jdk_67_method_93_code, exceptionTable := #[], attributes := #[] }
def k8m6 : Method := { name := "length", desc := "()I", sig := { parameters := [], returnType := some .int }, accessFlags := 4161, code := some k8c6 }
/-- java/lang/StringBuilder -/
def k8 : Class := { plain "java/lang/StringBuilder" (some 5) with
  accessFlags := 49
  interfaces := #[3, 6, 7, 4]
  cf := some (fileOf pool8 24 #[] #[{ accessFlags := 1, nameIndex := 5, descriptorIndex := 145, attributes := #[] }, { accessFlags := 1, nameIndex := 27, descriptorIndex := 28, attributes := #[] }, { accessFlags := 1, nameIndex := 27, descriptorIndex := 286, attributes := #[] }, { accessFlags := 1, nameIndex := 27, descriptorIndex := 268, attributes := #[] }, { accessFlags := 1, nameIndex := 27, descriptorIndex := 281, attributes := #[] }, { accessFlags := 1, nameIndex := 399, descriptorIndex := 400, attributes := #[] }, { accessFlags := 4161, nameIndex := 345, descriptorIndex := 156, attributes := #[] }] 49 2 #[349, 351, 353, 355] #[{ accessFlags := 24, nameIndex := 357, descriptorIndex := 358, attributes := #[] }])
  fields := #[{ name := "serialVersionUID", type := .long, accessFlags := 24, slot := 0, constantValue := 0 }]
  methods := #[k8m0, k8m1, k8m2, k8m3, k8m4, k8m5, k8m6]
  instanceTypes := #[(.array .byte), .byte, .boolean, .int]
  staticTypes := #[.long]
  resolved := Array.replicate 422 none
  statics := none }

def pool9 : Array CpInfo := pool [(1, .class_ 2), (0, u "java/lang/constant/Constable"), (0, .class_ 4), (0, u "java/lang/Object")] 6

/-- java/lang/constant/Constable -/
def k9 : Class := { plain "java/lang/constant/Constable" (some 0) with
  accessFlags := 1537
  interfaces := #[]
  cf := some (fileOf pool9 1 #[] #[] 1537 3 #[] #[])
  fields := #[]
  methods := #[]
  instanceTypes := #[]
  staticTypes := #[]
  resolved := Array.replicate 11 none
  statics := none }

def pool10 : Array CpInfo := pool [(1, .class_ 2), (0, u "java/lang/constant/ConstantDesc"), (0, .class_ 4), (0, u "java/lang/Object")] 32

/-- java/lang/constant/ConstantDesc -/
def k10 : Class := { plain "java/lang/constant/ConstantDesc" (some 0) with
  accessFlags := 1537
  interfaces := #[]
  cf := some (fileOf pool10 1 #[] #[] 1537 3 #[] #[])
  fields := #[]
  methods := #[]
  instanceTypes := #[]
  staticTypes := #[]
  resolved := Array.replicate 37 none
  statics := none }

def pool11 : Array CpInfo := pool [(1, .methodref 2 3), (0, .class_ 4), (0, .nameAndType 5 6), (0, u "java/lang/Object"), (0, u "<init>"), (0, u "()V"), (2, .fieldref 10 11), (0, .class_ 12), (0, .nameAndType 13 14), (0, u "java/lang/String"), (0, u "value"), (0, u "[B"), (0, .fieldref 10 16), (0, .nameAndType 17 18), (0, u "coder"), (0, u "B"), (2, u "hash"), (0, u "I"), (2, u "hashIsZero"), (0, u "Z"), (11, .fieldref 10 39), (0, .nameAndType 40 26), (0, u "COMPACT_STRINGS"), (13, .methodref 55 56), (0, .class_ 57), (0, .nameAndType 58 59), (0, u "java/util/Arrays"), (0, u "copyOfRange"), (0, u "([BII)[B"), (47, .class_ 109), (1, u "java/lang/StringLatin1"), (32, u "()Z"), (50, .class_ 195), (1, u "java/lang/System"), (16, .methodref 193 213), (0, .nameAndType 214 215), (0, u "arraycopy"), (0, u "(Ljava/lang/Object;ILjava/lang/Object;II)V"), (118, u "()I"), (0, .methodref 10 336), (0, .nameAndType 17 337), (0, u "()B"), (2, u "()[B"), (22, u "([BI)C"), (27, u "(II)V"), (35, u "(I)C"), (61, .methodref 10 490), (0, .nameAndType 5 491), (0, u "(Ljava/lang/AbstractStringBuilder;Ljava/lang/Void;)V"), (0, .methodref 10 493), (0, .nameAndType 494 142), (0, u "isLatin1"), (0, .methodref 107 496), (0, .nameAndType 497 363), (0, u "charAt"), (3, u "checkIndex"), (4, .nameAndType 507 334), (0, u "length"), (24, u "getBytes"), (16, .methodref 550 506), (0, .class_ 551), (0, u "java/lang/AbstractStringBuilder"), (0, .methodref 550 553), (0, .nameAndType 554 340), (0, u "getValue"), (20, .class_ 576), (0, u "java/lang/CharSequence"), (22, u "CASE_INSENSITIVE_ORDER"), (0, u "Ljava/util/Comparator;"), (220, u "([BIB)V"), (225, .methodref 550 493), (5, .fieldref 1054 1055), (0, .class_ 1056), (0, .nameAndType 1057 1058), (0, u "jdk/internal/util/Preconditions"), (0, u "SIOOBE_FORMATTER"), (0, u "Ljava/util/function/BiFunction;"), (0, .methodref 1054 1060), (0, .nameAndType 501 1061), (0, u "(IILjava/util/function/BiFunction;)I"), (39, u "serialPersistentFields"), (0, u "[Ljava/io/ObjectStreamField;"), (0, .class_ 1104), (0, u "java/lang/String$CaseInsensitiveComparator"), (1, .class_ 1107), (0, u "java/io/Serializable"), (0, .class_ 1109), (0, u "java/lang/Comparable"), (0, .class_ 1111), (0, u "java/lang/constant/Constable"), (0, .class_ 1113), (0, u "java/lang/constant/ConstantDesc"), (2, u "serialVersionUID"), (0, u "J"), (3, u "REPL"), (0, u "C"), (2, u "LATIN1"), (1, u "UTF16"), (105, u "(Ljava/lang/StringBuilder;)V")] 217

def k11m0 : Method := { name := "<init>", desc := "()V", sig := { parameters := [], returnType := none }, accessFlags := 1, code := none }
def k11c1 : Code := { maxStack := 3, maxLocals := 2, code := jdk_42_method_53_code, exceptionTable := #[], attributes := #[] }
def k11m1 : Method := { name := "<init>", desc := "(Ljava/lang/StringBuilder;)V", sig := { parameters := [(.object "java/lang/StringBuilder")], returnType := none }, accessFlags := 1, code := some k11c1 }
def k11c2 : Code := { maxStack := 2, maxLocals := 1, code := jdk_42_method_54_code, exceptionTable := #[], attributes := #[] }
def k11m2 : Method := { name := "length", desc := "()I", sig := { parameters := [], returnType := some .int }, accessFlags := 1, code := some k11c2 }
def k11c3 : Code := { maxStack := 2, maxLocals := 2, code := jdk_42_method_56_code, exceptionTable := #[], attributes := #[] }
def k11m3 : Method := { name := "charAt", desc := "(I)C", sig := { parameters := [.int], returnType := some .char }, accessFlags := 1, code := some k11c3 }
def k11c4 : Code := { maxStack := 5, maxLocals := 4, code := jdk_42_method_147_code, exceptionTable := #[], attributes := #[] }
def k11m4 : Method := { name := "getBytes", desc := "([BIB)V", sig := { parameters := [(.array .byte), .int, .byte], returnType := none }, accessFlags := 0, code := some k11c4 }
def k11c5 : Code := { maxStack := 5, maxLocals := 5, code := jdk_42_method_150_code, exceptionTable := #[], attributes := #[] }
def k11m5 : Method := { name := "<init>", desc := "(Ljava/lang/AbstractStringBuilder;Ljava/lang/Void;)V", sig := { parameters := [(.object "java/lang/AbstractStringBuilder"), (.object "java/lang/Void")], returnType := none }, accessFlags := 0, code := some k11c5 }
def k11c6 : Code := { maxStack := 1, maxLocals := 1, code := jdk_42_method_152_code, exceptionTable := #[], attributes := #[] }
def k11m6 : Method := { name := "coder", desc := "()B", sig := { parameters := [], returnType := some .byte }, accessFlags := 0, code := some k11c6 }
def k11c7 : Code := { maxStack := 1, maxLocals := 1, code := jdk_42_method_154_code, exceptionTable := #[], attributes := #[] }
def k11m7 : Method := { name := "isLatin1", desc := "()Z", sig := { parameters := [], returnType := some .boolean }, accessFlags := 0, code := some k11c7 }
def k11c8 : Code := { maxStack := 3, maxLocals := 2, code := jdk_42_method_155_code, exceptionTable := #[], attributes := #[] }
def k11m8 : Method := { name := "checkIndex", desc := "(II)V", sig := { parameters := [.int, .int], returnType := none }, accessFlags := 8, code := some k11c8 }
/-- java/lang/String -/
def k11 : Class := { plain "java/lang/String" (some 0) with
  accessFlags := 49
  interfaces := #[6, 7, 4, 9, 10]
  cf := some (fileOf pool11 10 #[.nestMembers #[1103]] #[{ accessFlags := 1, nameIndex := 5, descriptorIndex := 6, attributes := #[] }, { accessFlags := 1, nameIndex := 5, descriptorIndex := 1233, attributes := #[] }, { accessFlags := 1, nameIndex := 507, descriptorIndex := 334, attributes := #[] }, { accessFlags := 1, nameIndex := 497, descriptorIndex := 427, attributes := #[] }, { accessFlags := 0, nameIndex := 532, descriptorIndex := 821, attributes := #[] }, { accessFlags := 0, nameIndex := 5, descriptorIndex := 491, attributes := #[] }, { accessFlags := 0, nameIndex := 17, descriptorIndex := 337, attributes := #[] }, { accessFlags := 0, nameIndex := 494, descriptorIndex := 142, attributes := #[] }, { accessFlags := 8, nameIndex := 501, descriptorIndex := 391, attributes := #[] }] 49 2 #[1106, 1108, 575, 1110, 1112] #[{ accessFlags := 18, nameIndex := 13, descriptorIndex := 14, attributes := #[] }, { accessFlags := 18, nameIndex := 17, descriptorIndex := 18, attributes := #[] }, { accessFlags := 2, nameIndex := 21, descriptorIndex := 22, attributes := #[] }, { accessFlags := 2, nameIndex := 25, descriptorIndex := 26, attributes := #[] }, { accessFlags := 26, nameIndex := 1116, descriptorIndex := 1117, attributes := #[] }, { accessFlags := 24, nameIndex := 40, descriptorIndex := 26, attributes := #[] }, { accessFlags := 26, nameIndex := 1101, descriptorIndex := 1102, attributes := #[] }, { accessFlags := 26, nameIndex := 1121, descriptorIndex := 1122, attributes := #[] }, { accessFlags := 25, nameIndex := 599, descriptorIndex := 600, attributes := #[] }, { accessFlags := 24, nameIndex := 1125, descriptorIndex := 18, attributes := #[] }, { accessFlags := 24, nameIndex := 1127, descriptorIndex := 18, attributes := #[] }])
  fields := #[{ name := "value", type := (.array .byte), accessFlags := 18, slot := 0, constantValue := 0 }, { name := "coder", type := .byte, accessFlags := 18, slot := 1, constantValue := 0 }, { name := "hash", type := .int, accessFlags := 2, slot := 2, constantValue := 0 }, { name := "hashIsZero", type := .boolean, accessFlags := 2, slot := 3, constantValue := 0 }, { name := "serialVersionUID", type := .long, accessFlags := 26, slot := 0, constantValue := 0 }, { name := "COMPACT_STRINGS", type := .boolean, accessFlags := 24, slot := 1, constantValue := 0 }, { name := "serialPersistentFields", type := (.array (.object "java/io/ObjectStreamField")), accessFlags := 26, slot := 2, constantValue := 0 }, { name := "REPL", type := .char, accessFlags := 26, slot := 3, constantValue := 0 }, { name := "CASE_INSENSITIVE_ORDER", type := (.object "java/util/Comparator"), accessFlags := 25, slot := 4, constantValue := 0 }, { name := "LATIN1", type := .byte, accessFlags := 24, slot := 5, constantValue := 0 }, { name := "UTF16", type := .byte, accessFlags := 24, slot := 6, constantValue := 0 }]
  methods := #[k11m0, k11m1, k11m2, k11m3, k11m4, k11m5, k11m6, k11m7, k11m8]
  instanceTypes := #[(.array .byte), .byte, .int, .boolean]
  staticTypes := #[.long, .boolean, (.array (.object "java/io/ObjectStreamField")), .char, (.object "java/util/Comparator"), .byte, .byte]
  resolved := Array.replicate 1451 none
  statics := some 0 }

def pool12 : Array CpInfo := pool [(2, .class_ 4), (1, u "java/lang/Object"), (0, u "<init>"), (0, u "()V"), (1, .class_ 10), (1, u "java/lang/System"), (0, u "allowSecurityManager"), (0, u "I"), (16, u "cons"), (0, u "Ljava/io/Console;"), (77, .class_ 110), (1, u "java/lang/System$CallersHolder"), (43, u "initialErrStream"), (0, u "Ljava/io/PrintStream;"), (19, u "security"), (0, u "Ljava/lang/SecurityManager;"), (31, .class_ 209), (0, u "java/lang/System$1"), (7, u "props"), (0, u "Ljava/util/Properties;"), (2, u "lineSeparator"), (0, u "Ljava/lang/String;"), (96, .class_ 321), (1, u "java/lang/System$LoggerFinder"), (5, .class_ 328), (0, u "java/lang/System$Logger"), (67, u "err"), (2, u "out"), (91, u "notSupportedJnuEncoding"), (15, u "in"), (17, u "initialIn"), (0, u "Ljava/io/InputStream;"), (35, u "bootLayer"), (0, u "Ljava/lang/ModuleLayer;"), (99, .class_ 664), (0, u "java/lang/System$2"), (9, u "NEVER"), (2, u "MAYBE"), (49, u "arraycopy"), (0, u "(Ljava/lang/Object;ILjava/lang/Object;II)V"), (72, .class_ 802), (0, u "java/lang/System$Logger$Level")] 31

def k12m0 : Method := { name := "<init>", desc := "()V", sig := { parameters := [], returnType := none }, accessFlags := 2, code := none }
def k12m1 : Method := { name := "arraycopy", desc := "(Ljava/lang/Object;ILjava/lang/Object;II)V", sig := { parameters := [(.object "java/lang/Object"), .int, (.object "java/lang/Object"), .int, .int], returnType := none }, accessFlags := 265, code := none }
/-- java/lang/System -/
def k12 : Class := { plain "java/lang/System" (some 0) with
  accessFlags := 49
  interfaces := #[]
  cf := some (fileOf pool12 8 #[.nestMembers #[319, 327, 801, 108, 663, 208]] #[{ accessFlags := 2, nameIndex := 5, descriptorIndex := 6, attributes := #[] }, { accessFlags := 265, nameIndex := 727, descriptorIndex := 728, attributes := #[] }] 49 2 #[] #[{ accessFlags := 25, nameIndex := 507, descriptorIndex := 526, attributes := #[] }, { accessFlags := 25, nameIndex := 399, descriptorIndex := 155, attributes := #[] }, { accessFlags := 25, nameIndex := 396, descriptorIndex := 155, attributes := #[] }, { accessFlags := 10, nameIndex := 525, descriptorIndex := 526, attributes := #[] }, { accessFlags := 26, nameIndex := 674, descriptorIndex := 12, attributes := #[] }, { accessFlags := 26, nameIndex := 677, descriptorIndex := 12, attributes := #[] }, { accessFlags := 10, nameIndex := 11, descriptorIndex := 12, attributes := #[] }, { accessFlags := 74, nameIndex := 175, descriptorIndex := 176, attributes := #[] }, { accessFlags := 10, nameIndex := 491, descriptorIndex := 222, attributes := #[] }, { accessFlags := 74, nameIndex := 29, descriptorIndex := 30, attributes := #[] }, { accessFlags := 74, nameIndex := 154, descriptorIndex := 155, attributes := #[] }, { accessFlags := 10, nameIndex := 217, descriptorIndex := 218, attributes := #[] }, { accessFlags := 10, nameIndex := 221, descriptorIndex := 222, attributes := #[] }, { accessFlags := 8, nameIndex := 562, descriptorIndex := 563, attributes := #[] }])
  fields := #[{ name := "in", type := (.object "java/io/InputStream"), accessFlags := 25, slot := 0, constantValue := 0 }, { name := "out", type := (.object "java/io/PrintStream"), accessFlags := 25, slot := 1, constantValue := 0 }, { name := "err", type := (.object "java/io/PrintStream"), accessFlags := 25, slot := 2, constantValue := 0 }, { name := "initialIn", type := (.object "java/io/InputStream"), accessFlags := 10, slot := 3, constantValue := 0 }, { name := "NEVER", type := .int, accessFlags := 26, slot := 4, constantValue := 0 }, { name := "MAYBE", type := .int, accessFlags := 26, slot := 5, constantValue := 0 }, { name := "allowSecurityManager", type := .int, accessFlags := 10, slot := 6, constantValue := 0 }, { name := "security", type := (.object "java/lang/SecurityManager"), accessFlags := 74, slot := 7, constantValue := 0 }, { name := "notSupportedJnuEncoding", type := (.object "java/lang/String"), accessFlags := 10, slot := 8, constantValue := 0 }, { name := "cons", type := (.object "java/io/Console"), accessFlags := 74, slot := 9, constantValue := 0 }, { name := "initialErrStream", type := (.object "java/io/PrintStream"), accessFlags := 74, slot := 10, constantValue := 0 }, { name := "props", type := (.object "java/util/Properties"), accessFlags := 10, slot := 11, constantValue := 0 }, { name := "lineSeparator", type := (.object "java/lang/String"), accessFlags := 10, slot := 12, constantValue := 0 }, { name := "bootLayer", type := (.object "java/lang/ModuleLayer"), accessFlags := 8, slot := 13, constantValue := 0 }]
  methods := #[k12m0, k12m1]
  instanceTypes := #[]
  staticTypes := #[(.object "java/io/InputStream"), (.object "java/io/PrintStream"), (.object "java/io/PrintStream"), (.object "java/io/InputStream"), .int, .int, .int, (.object "java/lang/SecurityManager"), (.object "java/lang/String"), (.object "java/io/Console"), (.object "java/io/PrintStream"), (.object "java/util/Properties"), (.object "java/lang/String"), (.object "java/lang/ModuleLayer")]
  resolved := Array.replicate 834 none
  statics := none }

def pool13 : Array CpInfo := pool [(2, .class_ 4), (1, u "java/lang/Object"), (0, u "<init>"), (0, u "()V"), (1, .class_ 10), (1, u "java/lang/Number"), (2, .class_ 14), (0, u "java/io/Serializable"), (0, u "serialVersionUID"), (0, u "J")] 20

def k13m0 : Method := { name := "<init>", desc := "()V", sig := { parameters := [], returnType := none }, accessFlags := 1, code := none }
/-- java/lang/Number -/
def k13 : Class := { plain "java/lang/Number" (some 0) with
  accessFlags := 1057
  interfaces := #[6]
  cf := some (fileOf pool13 8 #[] #[{ accessFlags := 1, nameIndex := 5, descriptorIndex := 6, attributes := #[] }] 1057 2 #[13] #[{ accessFlags := 26, nameIndex := 15, descriptorIndex := 16, attributes := #[] }])
  fields := #[{ name := "serialVersionUID", type := .long, accessFlags := 26, slot := 0, constantValue := 0 }]
  methods := #[k13m0]
  instanceTypes := #[]
  staticTypes := #[.long]
  resolved := Array.replicate 37 none
  statics := none }

def pool14 : Array CpInfo := pool [(1, .class_ 2), (0, u "java/lang/Long"), (15, .class_ 20), (1, u "java/lang/Integer"), (32, .long 10), (47, u "(J)I"), (18, u "stringSize"), (2, u "getChars"), (0, u "(JI[B)I"), (4, .long 18446744071562067968), (1, .long 100), (1, .fieldref 18 134), (0, .nameAndType 135 136), (0, u "DigitOnes"), (0, u "[B"), (0, .fieldref 18 138), (0, .nameAndType 139 136), (0, u "DigitTens"), (0, .long 18446744073709551606), (94, .class_ 237), (1, u "java/lang/Long$LongCache"), (33, .class_ 272), (0, u "java/lang/Number"), (2, u "value"), (0, u "J"), (84, u "TYPE"), (0, u "Ljava/lang/Class;"), (0, .class_ 364), (0, u "java/lang/Comparable"), (0, .class_ 366), (0, u "java/lang/constant/Constable"), (0, .class_ 368), (0, u "java/lang/constant/ConstantDesc"), (0, u "MIN_VALUE"), (1, u "MAX_VALUE"), (4, u "SIZE"), (0, u "I"), (1, u "BYTES"), (1, u "serialVersionUID")] 142

def k14c0 : Code := { maxStack := 4, maxLocals := 11, code := jdk_35_method_14_code, exceptionTable := #[], attributes := #[] }
def k14m0 : Method := { name := "getChars", desc := "(JI[B)I", sig := { parameters := [.long, .int, (.array .byte)], returnType := some .int }, accessFlags := 8, code := some k14c0 }
def k14c1 : Code := { maxStack := 4, maxLocals := 6, code := jdk_35_method_15_code, exceptionTable := #[], attributes := #[] }
def k14m1 : Method := { name := "stringSize", desc := "(J)I", sig := { parameters := [.long], returnType := some .int }, accessFlags := 8, code := some k14c1 }
/-- java/lang/Long -/
def k14 : Class := { plain "java/lang/Long" (some 13) with
  accessFlags := 49
  interfaces := #[7, 9, 10]
  cf := some (fileOf pool14 1 #[.nestMembers #[235]] #[{ accessFlags := 8, nameIndex := 123, descriptorIndex := 124, attributes := #[] }, { accessFlags := 8, nameIndex := 120, descriptorIndex := 101, attributes := #[] }] 49 271 #[363, 365, 367] #[{ accessFlags := 25, nameIndex := 369, descriptorIndex := 276, attributes := #[] }, { accessFlags := 25, nameIndex := 371, descriptorIndex := 276, attributes := #[] }, { accessFlags := 25, nameIndex := 361, descriptorIndex := 362, attributes := #[] }, { accessFlags := 18, nameIndex := 275, descriptorIndex := 276, attributes := #[] }, { accessFlags := 25, nameIndex := 376, descriptorIndex := 377, attributes := #[] }, { accessFlags := 25, nameIndex := 379, descriptorIndex := 377, attributes := #[] }, { accessFlags := 26, nameIndex := 381, descriptorIndex := 276, attributes := #[] }])
  fields := #[{ name := "MIN_VALUE", type := .long, accessFlags := 25, slot := 0, constantValue := 0 }, { name := "MAX_VALUE", type := .long, accessFlags := 25, slot := 1, constantValue := 0 }, { name := "TYPE", type := (.object "java/lang/Class"), accessFlags := 25, slot := 2, constantValue := 0 }, { name := "value", type := .long, accessFlags := 18, slot := 0, constantValue := 0 }, { name := "SIZE", type := .int, accessFlags := 25, slot := 3, constantValue := 0 }, { name := "BYTES", type := .int, accessFlags := 25, slot := 4, constantValue := 0 }, { name := "serialVersionUID", type := .long, accessFlags := 26, slot := 5, constantValue := 0 }]
  methods := #[k14m0, k14m1]
  instanceTypes := #[.long]
  staticTypes := #[.long, .long, (.object "java/lang/Class"), .int, .int, .long]
  resolved := Array.replicate 524 none
  statics := none }

def pool15 : Array CpInfo := pool [(1, .class_ 2), (0, u "java/lang/Integer"), (16, u "digits"), (0, u "[C"), (33, u "(I)I"), (19, u "stringSize"), (2, u "getChars"), (0, u "(II[B)I"), (4, .fieldref 1 84), (0, .nameAndType 85 86), (0, u "DigitOnes"), (0, u "[B"), (2, u "DigitTens"), (99, .class_ 190), (0, u "java/lang/Integer$IntegerCache"), (3, u "I"), (8, .class_ 204), (0, u "java/lang/Number"), (2, u "value"), (94, u "TYPE"), (0, u "Ljava/lang/Class;"), (0, .class_ 305), (0, u "java/lang/Comparable"), (0, .class_ 307), (0, u "java/lang/constant/Constable"), (0, .class_ 309), (0, u "java/lang/constant/ConstantDesc"), (0, u "MIN_VALUE"), (1, u "MAX_VALUE"), (3, u "SIZE"), (1, u "BYTES"), (1, u "serialVersionUID"), (0, u "J")] 131

def k15c0 : Code := { maxStack := 4, maxLocals := 7, code := jdk_33_method_12_code, exceptionTable := #[], attributes := #[] }
def k15m0 : Method := { name := "getChars", desc := "(II[B)I", sig := { parameters := [.int, .int, (.array .byte)], returnType := some .int }, accessFlags := 8, code := some k15c0 }
def k15c1 : Code := { maxStack := 2, maxLocals := 4, code := jdk_33_method_13_code, exceptionTable := #[], attributes := #[] }
def k15m1 : Method := { name := "stringSize", desc := "(I)I", sig := { parameters := [.int], returnType := some .int }, accessFlags := 8, code := some k15c1 }
/-- java/lang/Integer -/
def k15 : Class := { plain "java/lang/Integer" (some 13) with
  accessFlags := 49
  interfaces := #[7, 9, 10]
  cf := some (fileOf pool15 1 #[.nestMembers #[189]] #[{ accessFlags := 8, nameIndex := 77, descriptorIndex := 78, attributes := #[] }, { accessFlags := 8, nameIndex := 74, descriptorIndex := 54, attributes := #[] }] 49 203 #[304, 306, 308] #[{ accessFlags := 25, nameIndex := 310, descriptorIndex := 194, attributes := #[] }, { accessFlags := 25, nameIndex := 312, descriptorIndex := 194, attributes := #[] }, { accessFlags := 25, nameIndex := 302, descriptorIndex := 303, attributes := #[] }, { accessFlags := 24, nameIndex := 19, descriptorIndex := 20, attributes := #[] }, { accessFlags := 24, nameIndex := 89, descriptorIndex := 86, attributes := #[] }, { accessFlags := 24, nameIndex := 85, descriptorIndex := 86, attributes := #[] }, { accessFlags := 18, nameIndex := 207, descriptorIndex := 194, attributes := #[] }, { accessFlags := 25, nameIndex := 316, descriptorIndex := 194, attributes := #[] }, { accessFlags := 25, nameIndex := 318, descriptorIndex := 194, attributes := #[] }, { accessFlags := 26, nameIndex := 320, descriptorIndex := 321, attributes := #[] }])
  fields := #[{ name := "MIN_VALUE", type := .int, accessFlags := 25, slot := 0, constantValue := 0 }, { name := "MAX_VALUE", type := .int, accessFlags := 25, slot := 1, constantValue := 0 }, { name := "TYPE", type := (.object "java/lang/Class"), accessFlags := 25, slot := 2, constantValue := 0 }, { name := "digits", type := (.array .char), accessFlags := 24, slot := 3, constantValue := 0 }, { name := "DigitTens", type := (.array .byte), accessFlags := 24, slot := 4, constantValue := 0 }, { name := "DigitOnes", type := (.array .byte), accessFlags := 24, slot := 5, constantValue := 0 }, { name := "value", type := .int, accessFlags := 18, slot := 0, constantValue := 0 }, { name := "SIZE", type := .int, accessFlags := 25, slot := 6, constantValue := 0 }, { name := "BYTES", type := .int, accessFlags := 25, slot := 7, constantValue := 0 }, { name := "serialVersionUID", type := .long, accessFlags := 26, slot := 8, constantValue := 0 }]
  methods := #[k15m0, k15m1]
  instanceTypes := #[.int]
  staticTypes := #[.int, .int, (.object "java/lang/Class"), (.array .char), (.array .byte), (.array .byte), .int, .int, .long]
  resolved := Array.replicate 453 none
  statics := some 1 }

def pool16 : Array CpInfo := pool [(9, u "<init>"), (6, .class_ 18), (1, u "java/lang/Object"), (0, u "()V"), (1, .class_ 23), (1, u "jdk/internal/util/ArraysSupport"), (0, u "LOG2_ARRAY_LONG_INDEX_SCALE"), (0, u "I"), (2, u "U"), (0, u "Ljdk/internal/misc/Unsafe;"), (8, u "BIG_ENDIAN"), (0, u "Z"), (8, u "LOG2_BYTE_BIT_SIZE"), (4, u "LOG2_ARRAY_INT_INDEX_SCALE"), (54, u "JLA"), (0, u "Ljdk/internal/access/JavaLangAccess;"), (11, u "LOG2_ARRAY_BOOLEAN_INDEX_SCALE"), (9, u "LOG2_ARRAY_BYTE_INDEX_SCALE"), (5, u "LOG2_ARRAY_CHAR_INDEX_SCALE"), (5, u "LOG2_ARRAY_SHORT_INDEX_SCALE"), (18, u "LOG2_ARRAY_FLOAT_INDEX_SCALE"), (24, u "LOG2_ARRAY_DOUBLE_INDEX_SCALE"), (6, .methodref 195 196), (0, .class_ 197), (0, .nameAndType 198 199), (0, u "java/lang/Math"), (0, u "max"), (0, u "(II)I"), (0, .integer 2147483639), (76, u "T_BOOLEAN"), (2, u "T_CHAR"), (1, u "T_FLOAT"), (1, u "T_DOUBLE"), (1, u "T_BYTE"), (1, u "T_SHORT"), (1, u "T_INT"), (1, u "T_LONG"), (1, u "SOFT_MAX_ARRAY_LENGTH"), (56, u "newLength"), (0, u "(III)I")] 25

def k16m0 : Method := { name := "<init>", desc := "()V", sig := { parameters := [], returnType := none }, accessFlags := 2, code := none }
def k16c1 : Code := { maxStack := 3, maxLocals := 4, code := jdk_48_method_27_code, exceptionTable := #[], attributes := #[] }
def k16m1 : Method := { name := "newLength", desc := "(III)I", sig := { parameters := [.int, .int, .int], returnType := some .int }, accessFlags := 9, code := some k16c1 }
/-- jdk/internal/util/ArraysSupport -/
def k16 : Class := { plain "jdk/internal/util/ArraysSupport" (some 0) with
  accessFlags := 33
  interfaces := #[]
  cf := some (fileOf pool16 21 #[] #[{ accessFlags := 2, nameIndex := 9, descriptorIndex := 19, attributes := #[] }, { accessFlags := 9, nameIndex := 351, descriptorIndex := 352, attributes := #[] }] 33 16 #[] #[{ accessFlags := 24, nameIndex := 28, descriptorIndex := 29, attributes := #[] }, { accessFlags := 26, nameIndex := 38, descriptorIndex := 39, attributes := #[] }, { accessFlags := 25, nameIndex := 121, descriptorIndex := 25, attributes := #[] }, { accessFlags := 25, nameIndex := 131, descriptorIndex := 25, attributes := #[] }, { accessFlags := 25, nameIndex := 137, descriptorIndex := 25, attributes := #[] }, { accessFlags := 25, nameIndex := 143, descriptorIndex := 25, attributes := #[] }, { accessFlags := 25, nameIndex := 53, descriptorIndex := 25, attributes := #[] }, { accessFlags := 25, nameIndex := 24, descriptorIndex := 25, attributes := #[] }, { accessFlags := 25, nameIndex := 162, descriptorIndex := 25, attributes := #[] }, { accessFlags := 25, nameIndex := 187, descriptorIndex := 25, attributes := #[] }, { accessFlags := 26, nameIndex := 48, descriptorIndex := 25, attributes := #[] }, { accessFlags := 25, nameIndex := 277, descriptorIndex := 25, attributes := #[] }, { accessFlags := 25, nameIndex := 280, descriptorIndex := 25, attributes := #[] }, { accessFlags := 25, nameIndex := 282, descriptorIndex := 25, attributes := #[] }, { accessFlags := 25, nameIndex := 284, descriptorIndex := 25, attributes := #[] }, { accessFlags := 25, nameIndex := 286, descriptorIndex := 25, attributes := #[] }, { accessFlags := 25, nameIndex := 288, descriptorIndex := 25, attributes := #[] }, { accessFlags := 25, nameIndex := 290, descriptorIndex := 25, attributes := #[] }, { accessFlags := 25, nameIndex := 292, descriptorIndex := 25, attributes := #[] }, { accessFlags := 26, nameIndex := 108, descriptorIndex := 109, attributes := #[] }, { accessFlags := 25, nameIndex := 294, descriptorIndex := 25, attributes := #[] }])
  fields := #[{ name := "U", type := (.object "jdk/internal/misc/Unsafe"), accessFlags := 24, slot := 0, constantValue := 0 }, { name := "BIG_ENDIAN", type := .boolean, accessFlags := 26, slot := 1, constantValue := 0 }, { name := "LOG2_ARRAY_BOOLEAN_INDEX_SCALE", type := .int, accessFlags := 25, slot := 2, constantValue := 0 }, { name := "LOG2_ARRAY_BYTE_INDEX_SCALE", type := .int, accessFlags := 25, slot := 3, constantValue := 0 }, { name := "LOG2_ARRAY_CHAR_INDEX_SCALE", type := .int, accessFlags := 25, slot := 4, constantValue := 0 }, { name := "LOG2_ARRAY_SHORT_INDEX_SCALE", type := .int, accessFlags := 25, slot := 5, constantValue := 0 }, { name := "LOG2_ARRAY_INT_INDEX_SCALE", type := .int, accessFlags := 25, slot := 6, constantValue := 0 }, { name := "LOG2_ARRAY_LONG_INDEX_SCALE", type := .int, accessFlags := 25, slot := 7, constantValue := 0 }, { name := "LOG2_ARRAY_FLOAT_INDEX_SCALE", type := .int, accessFlags := 25, slot := 8, constantValue := 0 }, { name := "LOG2_ARRAY_DOUBLE_INDEX_SCALE", type := .int, accessFlags := 25, slot := 9, constantValue := 0 }, { name := "LOG2_BYTE_BIT_SIZE", type := .int, accessFlags := 26, slot := 10, constantValue := 0 }, { name := "T_BOOLEAN", type := .int, accessFlags := 25, slot := 11, constantValue := 0 }, { name := "T_CHAR", type := .int, accessFlags := 25, slot := 12, constantValue := 0 }, { name := "T_FLOAT", type := .int, accessFlags := 25, slot := 13, constantValue := 0 }, { name := "T_DOUBLE", type := .int, accessFlags := 25, slot := 14, constantValue := 0 }, { name := "T_BYTE", type := .int, accessFlags := 25, slot := 15, constantValue := 0 }, { name := "T_SHORT", type := .int, accessFlags := 25, slot := 16, constantValue := 0 }, { name := "T_INT", type := .int, accessFlags := 25, slot := 17, constantValue := 0 }, { name := "T_LONG", type := .int, accessFlags := 25, slot := 18, constantValue := 0 }, { name := "JLA", type := (.object "jdk/internal/access/JavaLangAccess"), accessFlags := 26, slot := 19, constantValue := 0 }, { name := "SOFT_MAX_ARRAY_LENGTH", type := .int, accessFlags := 25, slot := 20, constantValue := 0 }]
  methods := #[k16m0, k16m1]
  instanceTypes := #[]
  staticTypes := #[(.object "jdk/internal/misc/Unsafe"), .boolean, .int, .int, .int, .int, .int, .int, .int, .int, .int, .int, .int, .int, .int, .int, .int, .int, .int, (.object "jdk/internal/access/JavaLangAccess"), .int]
  resolved := Array.replicate 378 none
  statics := none }

def pool17 : Array CpInfo := pool [(1, .class_ 2), (0, u "java/lang/Math"), (1, .class_ 6), (1, u "java/lang/Object"), (0, u "<init>"), (0, u "()V"), (89, .class_ 100), (1, u "java/lang/Math$RandomNumberGeneratorHolder"), (19, u "multiplyExact"), (0, u "(JJ)J"), (0, .methodref 1 123), (0, .nameAndType 124 125), (0, u "abs"), (0, u "(J)J"), (2, .long 9223372036854775808), (43, u "negativeZeroFloatBits"), (0, u "J"), (2, u "negativeZeroDoubleBits"), (21, u "max"), (2, u "min"), (43, u "$assertionsDisabled"), (0, u "Z"), (88, u "(II)I"), (2, u "twoToTheDoubleScaleDown"), (0, u "D"), (4, u "twoToTheDoubleScaleUp"), (9, u "E"), (3, u "PI"), (2, u "TAU"), (2, u "DEGREES_TO_RADIANS"), (0, u "RADIANS_TO_DEGREES")] 94

def k17m0 : Method := { name := "<init>", desc := "()V", sig := { parameters := [], returnType := none }, accessFlags := 2, code := none }
def k17c1 : Code := { maxStack := 4, maxLocals := 10, code := jdk_29_method_30_code, exceptionTable := #[], attributes := #[] }
def k17m1 : Method := { name := "multiplyExact", desc := "(JJ)J", sig := { parameters := [.long, .long], returnType := some .long }, accessFlags := 9, code := some k17c1 }
def k17c2 : Code := { maxStack := 4, maxLocals := 2, code := jdk_29_method_61_code, exceptionTable := #[], attributes := #[] }
def k17m2 : Method := { name := "abs", desc := "(J)J", sig := { parameters := [.long], returnType := some .long }, accessFlags := 9, code := some k17c2 }
def k17c3 : Code := { maxStack := 2, maxLocals := 2, code := jdk_29_method_65_code, exceptionTable := #[], attributes := #[] }
def k17m3 : Method := { name := "max", desc := "(II)I", sig := { parameters := [.int, .int], returnType := some .int }, accessFlags := 9, code := some k17c3 }
def k17c4 : Code := { maxStack := 4, maxLocals := 4, code := jdk_29_method_66_code, exceptionTable := #[], attributes := #[] }
def k17m4 : Method := { name := "max", desc := "(JJ)J", sig := { parameters := [.long, .long], returnType := some .long }, accessFlags := 9, code := some k17c4 }
def k17c5 : Code := { maxStack := 2, maxLocals := 2, code := jdk_29_method_69_code, exceptionTable := #[], attributes := #[] }
def k17m5 : Method := { name := "min", desc := "(II)I", sig := { parameters := [.int, .int], returnType := some .int }, accessFlags := 9, code := some k17c5 }
/-- java/lang/Math -/
def k17 : Class := { plain "java/lang/Math" (some 0) with
  accessFlags := 49
  interfaces := #[]
  cf := some (fileOf pool17 1 #[.nestMembers #[98]] #[{ accessFlags := 2, nameIndex := 7, descriptorIndex := 8, attributes := #[] }, { accessFlags := 9, nameIndex := 120, descriptorIndex := 121, attributes := #[] }, { accessFlags := 9, nameIndex := 124, descriptorIndex := 125, attributes := #[] }, { accessFlags := 9, nameIndex := 198, descriptorIndex := 335, attributes := #[] }, { accessFlags := 9, nameIndex := 198, descriptorIndex := 121, attributes := #[] }, { accessFlags := 9, nameIndex := 201, descriptorIndex := 335, attributes := #[] }] 49 4 #[] #[{ accessFlags := 25, nameIndex := 354, descriptorIndex := 339, attributes := #[] }, { accessFlags := 25, nameIndex := 358, descriptorIndex := 339, attributes := #[] }, { accessFlags := 25, nameIndex := 361, descriptorIndex := 339, attributes := #[] }, { accessFlags := 26, nameIndex := 364, descriptorIndex := 339, attributes := #[] }, { accessFlags := 26, nameIndex := 365, descriptorIndex := 339, attributes := #[] }, { accessFlags := 26, nameIndex := 172, descriptorIndex := 173, attributes := #[] }, { accessFlags := 26, nameIndex := 176, descriptorIndex := 173, attributes := #[] }, { accessFlags := 8, nameIndex := 344, descriptorIndex := 339, attributes := #[] }, { accessFlags := 8, nameIndex := 338, descriptorIndex := 339, attributes := #[] }, { accessFlags := 4120, nameIndex := 245, descriptorIndex := 246, attributes := #[] }])
  fields := #[{ name := "E", type := .double, accessFlags := 25, slot := 0, constantValue := 0 }, { name := "PI", type := .double, accessFlags := 25, slot := 1, constantValue := 0 }, { name := "TAU", type := .double, accessFlags := 25, slot := 2, constantValue := 0 }, { name := "DEGREES_TO_RADIANS", type := .double, accessFlags := 26, slot := 3, constantValue := 0 }, { name := "RADIANS_TO_DEGREES", type := .double, accessFlags := 26, slot := 4, constantValue := 0 }, { name := "negativeZeroFloatBits", type := .long, accessFlags := 26, slot := 5, constantValue := 0 }, { name := "negativeZeroDoubleBits", type := .long, accessFlags := 26, slot := 6, constantValue := 0 }, { name := "twoToTheDoubleScaleUp", type := .double, accessFlags := 8, slot := 7, constantValue := 0 }, { name := "twoToTheDoubleScaleDown", type := .double, accessFlags := 8, slot := 8, constantValue := 0 }, { name := "$assertionsDisabled", type := .boolean, accessFlags := 4120, slot := 9, constantValue := 0 }]
  methods := #[k17m0, k17m1, k17m2, k17m3, k17m4, k17m5]
  instanceTypes := #[]
  staticTypes := #[.double, .double, .double, .double, .double, .long, .long, .double, .double, .boolean]
  resolved := Array.replicate 460 none
  statics := none }

def pool18 : Array CpInfo := pool [(2, .class_ 4), (1, u "java/lang/Object"), (0, u "<init>"), (0, u "()V"), (7, .class_ 16), (1, u "java/util/Arrays"), (57, .class_ 76), (1, u "java/util/Arrays$NaturalOrder"), (32, u "()Ljava/lang/Object;"), (3, .class_ 115), (1, u "java/util/Arrays$LegacyMergeSort"), (1, u "Z"), (10, .nameAndType 129 109), (0, u "clone"), (9, u "copyOfRange"), (10, .methodref 151 152), (0, .class_ 153), (0, .nameAndType 154 155), (0, u "java/lang/System"), (0, u "arraycopy"), (0, u "(Ljava/lang/Object;ILjava/lang/Object;II)V"), (146, u "copyOf"), (1, .methodref 305 306), (0, .class_ 307), (0, .nameAndType 308 309), (0, u "java/lang/Math"), (0, u "min"), (0, u "(II)I"), (0, .methodref 311 128), (0, .class_ 312), (0, u "[B"), (26, .methodref 14 340), (0, .nameAndType 341 342), (0, u "copyOfRangeByte"), (0, u "([BII)[B"), (0, .methodref 14 344), (0, .nameAndType 345 346), (0, u "checkLength"), (0, u "(II)V"), (28, .class_ 376), (0, u "java/util/Arrays$ArrayList"), (68, u "$assertionsDisabled"), (269, u "MIN_ARRAY_SORT_GRAN"), (0, u "I"), (2, u "INSERTIONSORT_THRESHOLD"), (149, u "([BI)[B"), (105, .class_ 976), (0, u "java/util/Arrays$ArrayItr")] 52

def k18m0 : Method := { name := "<init>", desc := "()V", sig := { parameters := [], returnType := none }, accessFlags := 2, code := none }
def k18c1 : Code := { maxStack := 6, maxLocals := 3, code := jdk_65_method_121_code, exceptionTable := #[], attributes := #[] }
def k18m1 : Method := { name := "copyOf", desc := "([BI)[B", sig := { parameters := [(.array .byte), .int], returnType := some (.array .byte) }, accessFlags := 9, code := some k18c1 }
def k18c2 : Code := { maxStack := 4, maxLocals := 2, code := jdk_65_method_131_code, exceptionTable := #[], attributes := #[] }
def k18m2 : Method := { name := "checkLength", desc := "(II)V", sig := { parameters := [.int, .int], returnType := none }, accessFlags := 10, code := some k18c2 }
def k18c3 : Code := { maxStack := 3, maxLocals := 3, code := jdk_65_method_132_code, exceptionTable := #[], attributes := #[] }
def k18m3 : Method := { name := "copyOfRange", desc := "([BII)[B", sig := { parameters := [(.array .byte), .int, .int], returnType := some (.array .byte) }, accessFlags := 9, code := some k18c3 }
def k18c4 : Code := { maxStack := 6, maxLocals := 5, code := jdk_65_method_133_code, exceptionTable := #[], attributes := #[] }
def k18m4 : Method := { name := "copyOfRangeByte", desc := "([BII)[B", sig := { parameters := [(.array .byte), .int, .int], returnType := some (.array .byte) }, accessFlags := 10, code := some k18c4 }
/-- java/util/Arrays -/
def k18 : Class := { plain "java/util/Arrays" (some 0) with
  accessFlags := 49
  interfaces := #[]
  cf := some (fileOf pool18 14 #[.nestMembers #[975, 375, 113, 74]] #[{ accessFlags := 2, nameIndex := 5, descriptorIndex := 6, attributes := #[] }, { accessFlags := 9, nameIndex := 302, descriptorIndex := 869, attributes := #[] }, { accessFlags := 10, nameIndex := 345, descriptorIndex := 346, attributes := #[] }, { accessFlags := 9, nameIndex := 139, descriptorIndex := 342, attributes := #[] }, { accessFlags := 10, nameIndex := 341, descriptorIndex := 342, attributes := #[] }] 49 2 #[] #[{ accessFlags := 26, nameIndex := 715, descriptorIndex := 716, attributes := #[] }, { accessFlags := 26, nameIndex := 719, descriptorIndex := 716, attributes := #[] }, { accessFlags := 4120, nameIndex := 445, descriptorIndex := 117, attributes := #[] }])
  fields := #[{ name := "MIN_ARRAY_SORT_GRAN", type := .int, accessFlags := 26, slot := 0, constantValue := 0 }, { name := "INSERTIONSORT_THRESHOLD", type := .int, accessFlags := 26, slot := 1, constantValue := 0 }, { name := "$assertionsDisabled", type := .boolean, accessFlags := 4120, slot := 2, constantValue := 0 }]
  methods := #[k18m0, k18m1, k18m2, k18m3, k18m4]
  instanceTypes := #[]
  staticTypes := #[.int, .int, .boolean]
  resolved := Array.replicate 1029 none
  statics := none }

def pool19 : Array CpInfo := pool [(1, .class_ 2), (0, u "java/lang/String"), (1, .class_ 6), (1, u "java/lang/Object"), (0, u "<init>"), (0, u "()V"), (0, .methodref 1 10), (0, .nameAndType 11 12), (0, u "checkIndex"), (0, u "(II)V"), (1, .class_ 16), (1, u "java/lang/StringLatin1"), (36, u "([BI)C"), (36, u "canEncode"), (14, u "(C)Z"), (15, u "$assertionsDisabled"), (0, u "Z"), (98, .class_ 223), (1, u "java/lang/StringLatin1$LinesSpliterator"), (28, u "charAt"), (137, .class_ 391), (0, u "java/lang/StringLatin1$CharsSpliterator")] 3

def k19m0 : Method := { name := "<init>", desc := "()V", sig := { parameters := [], returnType := none }, accessFlags := 0, code := none }
def k19c1 : Code := { maxStack := 2, maxLocals := 2, code := jdk_43_method_2_code, exceptionTable := #[], attributes := #[] }
def k19m1 : Method := { name := "charAt", desc := "([BI)C", sig := { parameters := [(.array .byte), .int], returnType := some .char }, accessFlags := 9, code := some k19c1 }
def k19c2 : Code := { maxStack := 2, maxLocals := 1, code := jdk_43_method_3_code, exceptionTable := #[], attributes := #[] }
def k19m2 : Method := { name := "canEncode", desc := "(C)Z", sig := { parameters := [.char], returnType := some .boolean }, accessFlags := 9, code := some k19c2 }
/-- java/lang/StringLatin1 -/
def k19 : Class := { plain "java/lang/StringLatin1" (some 0) with
  accessFlags := 48
  interfaces := #[]
  cf := some (fileOf pool19 14 #[.nestMembers #[390, 221]] #[{ accessFlags := 0, nameIndex := 7, descriptorIndex := 8, attributes := #[] }, { accessFlags := 9, nameIndex := 252, descriptorIndex := 53, attributes := #[] }, { accessFlags := 9, nameIndex := 90, descriptorIndex := 105, attributes := #[] }] 48 4 #[] #[{ accessFlags := 4120, nameIndex := 121, descriptorIndex := 122, attributes := #[] }])
  fields := #[{ name := "$assertionsDisabled", type := .boolean, accessFlags := 4120, slot := 0, constantValue := 0 }]
  methods := #[k19m0, k19m1, k19m2]
  instanceTypes := #[]
  staticTypes := #[.boolean]
  resolved := Array.replicate 395 none
  statics := none }

def pool20 : Array CpInfo := pool [(2, .class_ 4), (1, u "java/lang/Object"), (0, u "<init>"), (0, u "()V"), (17, .class_ 26), (1, u "jdk/internal/util/Preconditions"), (6, u "checkIndex"), (21, .class_ 56), (0, u "jdk/internal/util/Preconditions$4"), (57, .class_ 115), (0, u "jdk/internal/util/Preconditions$1"), (7, u "SIOOBE_FORMATTER"), (0, u "Ljava/util/function/BiFunction;"), (0, .class_ 126), (0, u "jdk/internal/util/Preconditions$2"), (3, u "AIOOBE_FORMATTER"), (0, .class_ 132), (0, u "jdk/internal/util/Preconditions$3"), (3, u "IOOBE_FORMATTER"), (41, u "(IILjava/util/function/BiFunction;)I")] 15

def k20m0 : Method := { name := "<init>", desc := "()V", sig := { parameters := [], returnType := none }, accessFlags := 1, code := none }
def k20c1 : Code := { maxStack := 3, maxLocals := 3, code := jdk_41_method_11_code, exceptionTable := #[], attributes := #[] }
def k20m1 : Method := { name := "checkIndex", desc := "(IILjava/util/function/BiFunction;)I", sig := { parameters := [.int, .int, (.object "java/util/function/BiFunction")], returnType := some .int }, accessFlags := 9, code := some k20c1 }
/-- jdk/internal/util/Preconditions -/
def k20 : Class := { plain "jdk/internal/util/Preconditions" (some 0) with
  accessFlags := 33
  interfaces := #[]
  cf := some (fileOf pool20 24 #[.nestMembers #[55, 131, 125, 114]] #[{ accessFlags := 1, nameIndex := 5, descriptorIndex := 6, attributes := #[] }, { accessFlags := 9, nameIndex := 33, descriptorIndex := 178, attributes := #[] }] 33 2 #[] #[{ accessFlags := 25, nameIndex := 123, descriptorIndex := 124, attributes := #[] }, { accessFlags := 25, nameIndex := 130, descriptorIndex := 124, attributes := #[] }, { accessFlags := 25, nameIndex := 136, descriptorIndex := 124, attributes := #[] }])
  fields := #[{ name := "SIOOBE_FORMATTER", type := (.object "java/util/function/BiFunction"), accessFlags := 25, slot := 0, constantValue := 0 }, { name := "AIOOBE_FORMATTER", type := (.object "java/util/function/BiFunction"), accessFlags := 25, slot := 1, constantValue := 0 }, { name := "IOOBE_FORMATTER", type := (.object "java/util/function/BiFunction"), accessFlags := 25, slot := 2, constantValue := 0 }]
  methods := #[k20m0, k20m1]
  instanceTypes := #[]
  staticTypes := #[(.object "java/util/function/BiFunction"), (.object "java/util/function/BiFunction"), (.object "java/util/function/BiFunction")]
  resolved := Array.replicate 194 none
  statics := some 2 }

def pool21 : Array CpInfo := pool [(1, .class_ 2), (0, u "java/lang/Cloneable"), (0, .class_ 4), (0, u "java/lang/Object")] 2

/-- java/lang/Cloneable -/
def k21 : Class := { plain "java/lang/Cloneable" (some 0) with
  accessFlags := 1537
  interfaces := #[]
  cf := some (fileOf pool21 1 #[] #[] 1537 3 #[] #[])
  fields := #[]
  methods := #[]
  instanceTypes := #[]
  staticTypes := #[]
  resolved := Array.replicate 7 none
  statics := none }

/-- the primitive byte -/
def k22 : Class := { plain "byte" none with kind := .primitive 'B', accessFlags := 0x411 }
/-- [B -/
def k23 : Class := { plain "[B" (some 0) with kind := .array 22 .byte, interfaces := #[21, 6], accessFlags := 1041 }

/-- the primitive int -/
def k24 : Class := { plain "int" none with kind := .primitive 'I', accessFlags := 0x411 }
/-- [I -/
def k25 : Class := { plain "[I" (some 0) with kind := .array 24 .int, interfaces := #[21, 6], accessFlags := 1041 }

def heap : Heap := #[{ cls := 11, slots := #[.long 0, .int 1, .null, .int 0, .null, .int 0, .int 0], vm := .statics 11 },
  { cls := 15, slots := #[.int 0, .int 0, .null, .null, .ref 4, .ref 3, .int 0, .int 0, .long 0], vm := .statics 15 },
  { cls := 20, slots := #[.null, .null, .null], vm := .statics 20 },
  { cls := 23, slots := #[.int 48, .int 49, .int 50, .int 51, .int 52, .int 53, .int 54, .int 55, .int 56, .int 57, .int 48, .int 49, .int 50, .int 51, .int 52, .int 53, .int 54, .int 55, .int 56, .int 57, .int 48, .int 49, .int 50, .int 51, .int 52, .int 53, .int 54, .int 55, .int 56, .int 57, .int 48, .int 49, .int 50, .int 51, .int 52, .int 53, .int 54, .int 55, .int 56, .int 57, .int 48, .int 49, .int 50, .int 51, .int 52, .int 53, .int 54, .int 55, .int 56, .int 57, .int 48, .int 49, .int 50, .int 51, .int 52, .int 53, .int 54, .int 55, .int 56, .int 57, .int 48, .int 49, .int 50, .int 51, .int 52, .int 53, .int 54, .int 55, .int 56, .int 57, .int 48, .int 49, .int 50, .int 51, .int 52, .int 53, .int 54, .int 55, .int 56, .int 57, .int 48, .int 49, .int 50, .int 51, .int 52, .int 53, .int 54, .int 55, .int 56, .int 57, .int 48, .int 49, .int 50, .int 51, .int 52, .int 53, .int 54, .int 55, .int 56, .int 57], vm := .none },
  { cls := 23, slots := #[.int 48, .int 48, .int 48, .int 48, .int 48, .int 48, .int 48, .int 48, .int 48, .int 48, .int 49, .int 49, .int 49, .int 49, .int 49, .int 49, .int 49, .int 49, .int 49, .int 49, .int 50, .int 50, .int 50, .int 50, .int 50, .int 50, .int 50, .int 50, .int 50, .int 50, .int 51, .int 51, .int 51, .int 51, .int 51, .int 51, .int 51, .int 51, .int 51, .int 51, .int 52, .int 52, .int 52, .int 52, .int 52, .int 52, .int 52, .int 52, .int 52, .int 52, .int 53, .int 53, .int 53, .int 53, .int 53, .int 53, .int 53, .int 53, .int 53, .int 53, .int 54, .int 54, .int 54, .int 54, .int 54, .int 54, .int 54, .int 54, .int 54, .int 54, .int 55, .int 55, .int 55, .int 55, .int 55, .int 55, .int 55, .int 55, .int 55, .int 55, .int 56, .int 56, .int 56, .int 56, .int 56, .int 56, .int 56, .int 56, .int 56, .int 56, .int 57, .int 57, .int 57, .int 57, .int 57, .int 57, .int 57, .int 57, .int 57, .int 57], vm := .none }]
def classes : Array Class := #[k0, k1, k2, k3, k4, k5, k6, k7, k8, k9, k10, k11, k12, k13, k14, k15, k16, k17, k18, k19, k20, k21, k22, k23, k24, k25]
def interned : List (Array UInt16 × Addr) := []
def slotsUsed : Nat := 219
def theMethod : MethodId := ⟨1, 4⟩
def args0 : Array Value := #[.int 1, .int 2, .int 3, .int 4, .int 5]
def aboutOver (below : List Frame) : State where
  vm := { classes := classes, interned := interned.toArray }
  heap := heap
  slotsUsed := slotsUsed
  threads := #[{ frames := .invoking theMethod args0 :: below }]
def below0 : List Frame := [.native { method := ⟨0, 0⟩, args := #[] }]
def about1 : State := aboutOver below0
def p0 : Program := .bare "" "" ""
def e0 : Env := launch0.env 0 0 0
theorem w_frames : about1.frames = Frame.invoking theMethod args0 :: below0 := rfl
set_option maxRecDepth 65536 in
theorem w_args : argsFit about1.vm theMethod args0 = true := by decide +kernel
set_option maxRecDepth 65536 in
theorem w_heap : heapFits about1 = true := by decide +kernel
set_option maxRecDepth 65536 in
theorem w_runnable : about1.curStatus? = some .runnable := by decide +kernel
set_option maxRecDepth 65536 in
theorem w_alone : about1.alone = true := by decide +kernel
set_option maxRecDepth 65536 in
theorem w_named : about1.methodNamed? x = some theMethod := by decide +kernel
set_option maxRecDepth 65536 in
theorem w_hears : about1.hears theMethod below0 = true := by decide +kernel
set_option maxRecDepth 65536 in
theorem w_ripe : about1.ripe theMethod args0 below0 = true := by decide +kernel
theorem w_running : about1.status = .running := rfl
set_option maxRecDepth 65536 in
theorem w_room : about1.hasRoom e0.platform room_1 = true :=
  launch0.hasRoom_least _ room_1 (by decide +kernel) (by decide +kernel) (by decide +kernel) (by decide +kernel) (by decide +kernel) (by decide +kernel)
theorem allAtoms_all (ts : List Jvm.Cond) (a : Array Jvm.Value) (st : Jvm.State) : (allAtoms ts).before a st = ts.all (fun c => c.before a st) := by
  induction ts with
  | nil => rfl
  | cons c t ih =>
    show (Jvm.Cond.and c (allAtoms t)).before a st = _
    rw [Jvm.Cond.before_and, ih, List.all_cons]
def words1 : List Jvm.Cond := Jvm.Cond.code x code maxLocals ret :: tables_1
/-- a 'code' word, met by the world's own term for the bytes: nothing is compared byte by byte -/
theorem code_word {y : MethodName} {bytes : ByteArray} {mx : Nat} {rt : Option FieldType} {a : Array Value} {s : State} {m : MethodId} {meth : Method} {c : Code} (h1 : s.methodNamed? y = some m) (h2 : s.vm.method? m = some meth) (h3 : meth.code = some c) (h4 : c.code = bytes)
    (h5 : (c.maxLocals == mx && c.exceptionTable.isEmpty && decide (c.maxStack ≤ mostOperands) && decide (meth.sig.returnType = rt) && !meth.locks && decide (parseMethodDescriptor y.desc = some meth.sig)) = true) : (Jvm.Cond.code y bytes mx rt).before a s = true := by
  simp only [Bool.and_eq_true, beq_iff_eq, Bool.not_eq_true', decide_eq_true_eq] at h5
  obtain ⟨⟨⟨⟨⟨g1, g2⟩, g3⟩, g4⟩, g5⟩, g6⟩ := h5
  simp [Cond.before, Cond.holds, Cond.value, h1, h2, h3, h4, g1, g2, g3, g4, g5, g6]
def isCode : Jvm.Cond → Bool
  | .code _ _ _ _ => true
  | _ => false
theorem all_split {L : List Jvm.Cond} {P : Jvm.Cond → Bool} (h1 : L.all (fun c => isCode c || P c) = true) (h2 : ∀ c ∈ L.filter isCode, P c = true) : L.all P = true := by
  refine List.all_eq_true.mpr fun c hc => ?_
  have h := List.all_eq_true.mp h1 c hc
  rcases Bool.eq_false_or_eq_true (isCode c) with hi | hi
  · exact h2 c (List.mem_filter.mpr ⟨hc, hi⟩)
  · simpa [hi] using h
set_option maxRecDepth 65536 in
theorem w_c0 : (Jvm.Cond.code x code maxLocals ret).before args0 about1 = true := code_word (m := ⟨1, 4⟩) (meth := k1m4) (c := k1c4) (by decide +kernel) rfl rfl rfl (by decide +kernel)
set_option maxRecDepth 65536 in
theorem w_c1 : (Jvm.Cond.code ({ cls := "com/example/liken/liken/cli/IndexSummary", name := "<init>", desc := "()V" } : Jvm.MethodName) prog_3_method_1_code (1 : Nat) (Option.none : Option Jvm.ClassFile.FieldType)).before args0 about1 = true := code_word (m := ⟨2, 0⟩) (meth := k2m0) (c := k2c0) (by decide +kernel) rfl rfl rfl (by decide +kernel)
set_option maxRecDepth 65536 in
theorem w_c2 : (Jvm.Cond.code ({ cls := "java/lang/Object", name := "<init>", desc := "()V" } : Jvm.MethodName) object_method_1_code (1 : Nat) (Option.none : Option Jvm.ClassFile.FieldType)).before args0 about1 = true := code_word (m := ⟨0, 0⟩) (meth := k0m0) (c := k0c0) (by decide +kernel) rfl rfl rfl (by decide +kernel)
set_option maxRecDepth 65536 in
theorem w_c3 : (Jvm.Cond.code ({ cls := "com/example/liken/liken/cli/IndexSummary", name := "lines", desc := "(J)Ljava/lang/String;" } : Jvm.MethodName) prog_3_method_5_code (10 : Nat) (Option.some (Jvm.ClassFile.FieldType.object "java/lang/String"))).before args0 about1 = true := code_word (m := ⟨2, 2⟩) (meth := k2m2) (c := k2c2) (by decide +kernel) rfl rfl rfl (by decide +kernel)
set_option maxRecDepth 65536 in
theorem w_c4 : (Jvm.Cond.code ({ cls := "java/lang/StringBuilder", name := "<init>", desc := "()V" } : Jvm.MethodName) jdk_67_method_1_code (1 : Nat) (Option.none : Option Jvm.ClassFile.FieldType)).before args0 about1 = true := code_word (m := ⟨8, 0⟩) (meth := k8m0) (c := k8c0) (by decide +kernel) rfl rfl rfl (by decide +kernel)
set_option maxRecDepth 65536 in
theorem w_c5 : (Jvm.Cond.code ({ cls := "java/lang/AbstractStringBuilder", name := "<init>", desc := "(I)V" } : Jvm.MethodName) jdk_68_method_2_code (2 : Nat) (Option.none : Option Jvm.ClassFile.FieldType)).before args0 about1 = true := code_word (m := ⟨5, 1⟩) (meth := k5m1) (c := k5c1) (by decide +kernel) rfl rfl rfl (by decide +kernel)
set_option maxRecDepth 65536 in
theorem w_c6 : (Jvm.Cond.code ({ cls := "java/lang/StringBuilder", name := "append", desc := "(Ljava/lang/String;)Ljava/lang/StringBuilder;" } : Jvm.MethodName) jdk_67_method_7_code (2 : Nat) (Option.some (Jvm.ClassFile.FieldType.object "java/lang/StringBuilder"))).before args0 about1 = true := code_word (m := ⟨8, 1⟩) (meth := k8m1) (c := k8c1) (by decide +kernel) rfl rfl rfl (by decide +kernel)
set_option maxRecDepth 65536 in
theorem w_c7 : (Jvm.Cond.code ({ cls := "java/lang/AbstractStringBuilder", name := "append", desc := "(Ljava/lang/String;)Ljava/lang/AbstractStringBuilder;" } : Jvm.MethodName) jdk_68_method_22_code (3 : Nat) (Option.some (Jvm.ClassFile.FieldType.object "java/lang/AbstractStringBuilder"))).before args0 about1 = true := code_word (m := ⟨5, 5⟩) (meth := k5m5) (c := k5c5) (by decide +kernel) rfl rfl rfl (by decide +kernel)
set_option maxRecDepth 65536 in
theorem w_c8 : (Jvm.Cond.code ({ cls := "java/lang/String", name := "length", desc := "()I" } : Jvm.MethodName) jdk_42_method_54_code (1 : Nat) (Option.some Jvm.ClassFile.FieldType.int)).before args0 about1 = true := code_word (m := ⟨11, 2⟩) (meth := k11m2) (c := k11c2) (by decide +kernel) rfl rfl rfl (by decide +kernel)
set_option maxRecDepth 65536 in
theorem w_c9 : (Jvm.Cond.code ({ cls := "java/lang/String", name := "coder", desc := "()B" } : Jvm.MethodName) jdk_42_method_152_code (1 : Nat) (Option.some Jvm.ClassFile.FieldType.byte)).before args0 about1 = true := code_word (m := ⟨11, 6⟩) (meth := k11m6) (c := k11c6) (by decide +kernel) rfl rfl rfl (by decide +kernel)
set_option maxRecDepth 65536 in
theorem w_c10 : (Jvm.Cond.code ({ cls := "java/lang/AbstractStringBuilder", name := "ensureCapacityInternal", desc := "(I)V" } : Jvm.MethodName) jdk_68_method_9_code (3 : Nat) (Option.none : Option Jvm.ClassFile.FieldType)).before args0 about1 = true := code_word (m := ⟨5, 3⟩) (meth := k5m3) (c := k5c3) (by decide +kernel) rfl rfl rfl (by decide +kernel)
set_option maxRecDepth 65536 in
theorem w_c11 : (Jvm.Cond.code ({ cls := "java/lang/AbstractStringBuilder", name := "putStringAt", desc := "(ILjava/lang/String;)V" } : Jvm.MethodName) jdk_68_method_73_code (3 : Nat) (Option.none : Option Jvm.ClassFile.FieldType)).before args0 about1 = true := code_word (m := ⟨5, 12⟩) (meth := k5m12) (c := k5c12) (by decide +kernel) rfl rfl rfl (by decide +kernel)
set_option maxRecDepth 65536 in
theorem w_c12 : (Jvm.Cond.code ({ cls := "java/lang/AbstractStringBuilder", name := "inflateIfNeededFor", desc := "(Ljava/lang/String;)V" } : Jvm.MethodName) jdk_68_method_71_code (2 : Nat) (Option.none : Option Jvm.ClassFile.FieldType)).before args0 about1 = true := code_word (m := ⟨5, 11⟩) (meth := k5m11) (c := k5c11) (by decide +kernel) rfl rfl rfl (by decide +kernel)
set_option maxRecDepth 65536 in
theorem w_c13 : (Jvm.Cond.code ({ cls := "java/lang/String", name := "getBytes", desc := "([BIB)V" } : Jvm.MethodName) jdk_42_method_147_code (4 : Nat) (Option.none : Option Jvm.ClassFile.FieldType)).before args0 about1 = true := code_word (m := ⟨11, 4⟩) (meth := k11m4) (c := k11c4) (by decide +kernel) rfl rfl rfl (by decide +kernel)
set_option maxRecDepth 65536 in
theorem w_c14 : (Jvm.Cond.code ({ cls := "java/lang/StringBuilder", name := "append", desc := "(J)Ljava/lang/StringBuilder;" } : Jvm.MethodName) jdk_67_method_16_code (3 : Nat) (Option.some (Jvm.ClassFile.FieldType.object "java/lang/StringBuilder"))).before args0 about1 = true := code_word (m := ⟨8, 4⟩) (meth := k8m4) (c := k8c4) (by decide +kernel) rfl rfl rfl (by decide +kernel)
set_option maxRecDepth 65536 in
theorem w_c15 : (Jvm.Cond.code ({ cls := "java/lang/AbstractStringBuilder", name := "append", desc := "(J)Ljava/lang/AbstractStringBuilder;" } : Jvm.MethodName) jdk_68_method_33_code (5 : Nat) (Option.some (Jvm.ClassFile.FieldType.object "java/lang/AbstractStringBuilder"))).before args0 about1 = true := code_word (m := ⟨5, 8⟩) (meth := k5m8) (c := k5c8) (by decide +kernel) rfl rfl rfl (by decide +kernel)
set_option maxRecDepth 65536 in
theorem w_c16 : (Jvm.Cond.code ({ cls := "java/lang/Long", name := "stringSize", desc := "(J)I" } : Jvm.MethodName) jdk_35_method_15_code (6 : Nat) (Option.some Jvm.ClassFile.FieldType.int)).before args0 about1 = true := code_word (m := ⟨14, 1⟩) (meth := k14m1) (c := k14c1) (by decide +kernel) rfl rfl rfl (by decide +kernel)
set_option maxRecDepth 65536 in
theorem w_c17 : (Jvm.Cond.code ({ cls := "java/lang/AbstractStringBuilder", name := "isLatin1", desc := "()Z" } : Jvm.MethodName) jdk_68_method_68_code (1 : Nat) (Option.some Jvm.ClassFile.FieldType.boolean)).before args0 about1 = true := code_word (m := ⟨5, 10⟩) (meth := k5m10) (c := k5c10) (by decide +kernel) rfl rfl rfl (by decide +kernel)
set_option maxRecDepth 65536 in
theorem w_c18 : (Jvm.Cond.code ({ cls := "java/lang/Long", name := "getChars", desc := "(JI[B)I" } : Jvm.MethodName) jdk_35_method_14_code (11 : Nat) (Option.some Jvm.ClassFile.FieldType.int)).before args0 about1 = true := code_word (m := ⟨14, 0⟩) (meth := k14m0) (c := k14c0) (by decide +kernel) rfl rfl rfl (by decide +kernel)
set_option maxRecDepth 65536 in
theorem w_c19 : (Jvm.Cond.code ({ cls := "java/lang/AbstractStringBuilder", name := "newCapacity", desc := "(I)I" } : Jvm.MethodName) jdk_68_method_10_code (6 : Nat) (Option.some Jvm.ClassFile.FieldType.int)).before args0 about1 = true := code_word (m := ⟨5, 4⟩) (meth := k5m4) (c := k5c4) (by decide +kernel) rfl rfl rfl (by decide +kernel)
set_option maxRecDepth 65536 in
theorem w_c20 : (Jvm.Cond.code ({ cls := "jdk/internal/util/ArraysSupport", name := "newLength", desc := "(III)I" } : Jvm.MethodName) jdk_48_method_27_code (4 : Nat) (Option.some Jvm.ClassFile.FieldType.int)).before args0 about1 = true := code_word (m := ⟨16, 1⟩) (meth := k16m1) (c := k16c1) (by decide +kernel) rfl rfl rfl (by decide +kernel)
set_option maxRecDepth 65536 in
theorem w_c21 : (Jvm.Cond.code ({ cls := "java/lang/Math", name := "max", desc := "(II)I" } : Jvm.MethodName) jdk_29_method_65_code (2 : Nat) (Option.some Jvm.ClassFile.FieldType.int)).before args0 about1 = true := code_word (m := ⟨17, 3⟩) (meth := k17m3) (c := k17c3) (by decide +kernel) rfl rfl rfl (by decide +kernel)
set_option maxRecDepth 65536 in
theorem w_c22 : (Jvm.Cond.code ({ cls := "java/util/Arrays", name := "copyOf", desc := "([BI)[B" } : Jvm.MethodName) jdk_65_method_121_code (3 : Nat) (Option.some (Jvm.ClassFile.FieldType.array Jvm.ClassFile.FieldType.byte))).before args0 about1 = true := code_word (m := ⟨18, 1⟩) (meth := k18m1) (c := k18c1) (by decide +kernel) rfl rfl rfl (by decide +kernel)
set_option maxRecDepth 65536 in
theorem w_c23 : (Jvm.Cond.code ({ cls := "java/lang/Math", name := "min", desc := "(II)I" } : Jvm.MethodName) jdk_29_method_69_code (2 : Nat) (Option.some Jvm.ClassFile.FieldType.int)).before args0 about1 = true := code_word (m := ⟨17, 5⟩) (meth := k17m5) (c := k17c5) (by decide +kernel) rfl rfl rfl (by decide +kernel)
set_option maxRecDepth 65536 in
theorem w_c24 : (Jvm.Cond.code ({ cls := "java/lang/StringBuilder", name := "append", desc := "(I)Ljava/lang/StringBuilder;" } : Jvm.MethodName) jdk_67_method_15_code (2 : Nat) (Option.some (Jvm.ClassFile.FieldType.object "java/lang/StringBuilder"))).before args0 about1 = true := code_word (m := ⟨8, 3⟩) (meth := k8m3) (c := k8c3) (by decide +kernel) rfl rfl rfl (by decide +kernel)
set_option maxRecDepth 65536 in
theorem w_c25 : (Jvm.Cond.code ({ cls := "java/lang/AbstractStringBuilder", name := "append", desc := "(I)Ljava/lang/AbstractStringBuilder;" } : Jvm.MethodName) jdk_68_method_32_code (4 : Nat) (Option.some (Jvm.ClassFile.FieldType.object "java/lang/AbstractStringBuilder"))).before args0 about1 = true := code_word (m := ⟨5, 7⟩) (meth := k5m7) (c := k5c7) (by decide +kernel) rfl rfl rfl (by decide +kernel)
set_option maxRecDepth 65536 in
theorem w_c26 : (Jvm.Cond.code ({ cls := "java/lang/Integer", name := "stringSize", desc := "(I)I" } : Jvm.MethodName) jdk_33_method_13_code (4 : Nat) (Option.some Jvm.ClassFile.FieldType.int)).before args0 about1 = true := code_word (m := ⟨15, 1⟩) (meth := k15m1) (c := k15c1) (by decide +kernel) rfl rfl rfl (by decide +kernel)
set_option maxRecDepth 65536 in
theorem w_c27 : (Jvm.Cond.code ({ cls := "java/lang/Integer", name := "getChars", desc := "(II[B)I" } : Jvm.MethodName) jdk_33_method_12_code (7 : Nat) (Option.some Jvm.ClassFile.FieldType.int)).before args0 about1 = true := code_word (m := ⟨15, 0⟩) (meth := k15m0) (c := k15c0) (by decide +kernel) rfl rfl rfl (by decide +kernel)
set_option maxRecDepth 65536 in
theorem w_c28 : (Jvm.Cond.code ({ cls := "java/lang/Math", name := "max", desc := "(JJ)J" } : Jvm.MethodName) jdk_29_method_66_code (4 : Nat) (Option.some Jvm.ClassFile.FieldType.long)).before args0 about1 = true := code_word (m := ⟨17, 4⟩) (meth := k17m4) (c := k17c4) (by decide +kernel) rfl rfl rfl (by decide +kernel)
set_option maxRecDepth 65536 in
theorem w_c29 : (Jvm.Cond.code ({ cls := "java/lang/Math", name := "multiplyExact", desc := "(JJ)J" } : Jvm.MethodName) jdk_29_method_30_code (10 : Nat) (Option.some Jvm.ClassFile.FieldType.long)).before args0 about1 = true := code_word (m := ⟨17, 1⟩) (meth := k17m1) (c := k17c1) (by decide +kernel) rfl rfl rfl (by decide +kernel)
set_option maxRecDepth 65536 in
theorem w_c30 : (Jvm.Cond.code ({ cls := "java/lang/Math", name := "abs", desc := "(J)J" } : Jvm.MethodName) jdk_29_method_61_code (2 : Nat) (Option.some Jvm.ClassFile.FieldType.long)).before args0 about1 = true := code_word (m := ⟨17, 2⟩) (meth := k17m2) (c := k17c2) (by decide +kernel) rfl rfl rfl (by decide +kernel)
set_option maxRecDepth 65536 in
theorem w_c31 : (Jvm.Cond.code ({ cls := "java/lang/StringBuilder", name := "append", desc := "(C)Ljava/lang/StringBuilder;" } : Jvm.MethodName) jdk_67_method_14_code (2 : Nat) (Option.some (Jvm.ClassFile.FieldType.object "java/lang/StringBuilder"))).before args0 about1 = true := code_word (m := ⟨8, 2⟩) (meth := k8m2) (c := k8c2) (by decide +kernel) rfl rfl rfl (by decide +kernel)
set_option maxRecDepth 65536 in
theorem w_c32 : (Jvm.Cond.code ({ cls := "java/lang/AbstractStringBuilder", name := "append", desc := "(C)Ljava/lang/AbstractStringBuilder;" } : Jvm.MethodName) jdk_68_method_31_code (2 : Nat) (Option.some (Jvm.ClassFile.FieldType.object "java/lang/AbstractStringBuilder"))).before args0 about1 = true := code_word (m := ⟨5, 6⟩) (meth := k5m6) (c := k5c6) (by decide +kernel) rfl rfl rfl (by decide +kernel)
set_option maxRecDepth 65536 in
theorem w_c33 : (Jvm.Cond.code ({ cls := "java/lang/StringLatin1", name := "canEncode", desc := "(C)Z" } : Jvm.MethodName) jdk_43_method_3_code (1 : Nat) (Option.some Jvm.ClassFile.FieldType.boolean)).before args0 about1 = true := code_word (m := ⟨19, 2⟩) (meth := k19m2) (c := k19c2) (by decide +kernel) rfl rfl rfl (by decide +kernel)
set_option maxRecDepth 65536 in
theorem w_c34 : (Jvm.Cond.code ({ cls := "java/lang/StringBuilder", name := "toString", desc := "()Ljava/lang/String;" } : Jvm.MethodName) jdk_67_method_42_code (1 : Nat) (Option.some (Jvm.ClassFile.FieldType.object "java/lang/String"))).before args0 about1 = true := code_word (m := ⟨8, 5⟩) (meth := k8m5) (c := k8c5) (by decide +kernel) rfl rfl rfl (by decide +kernel)
set_option maxRecDepth 65536 in
theorem w_c35 : (Jvm.Cond.code ({ cls := "java/lang/String", name := "<init>", desc := "(Ljava/lang/StringBuilder;)V" } : Jvm.MethodName) jdk_42_method_53_code (2 : Nat) (Option.none : Option Jvm.ClassFile.FieldType)).before args0 about1 = true := code_word (m := ⟨11, 1⟩) (meth := k11m1) (c := k11c1) (by decide +kernel) rfl rfl rfl (by decide +kernel)
set_option maxRecDepth 65536 in
theorem w_c36 : (Jvm.Cond.code ({ cls := "java/lang/String", name := "<init>", desc := "(Ljava/lang/AbstractStringBuilder;Ljava/lang/Void;)V" } : Jvm.MethodName) jdk_42_method_150_code (5 : Nat) (Option.none : Option Jvm.ClassFile.FieldType)).before args0 about1 = true := code_word (m := ⟨11, 5⟩) (meth := k11m5) (c := k11c5) (by decide +kernel) rfl rfl rfl (by decide +kernel)
set_option maxRecDepth 65536 in
theorem w_c37 : (Jvm.Cond.code ({ cls := "java/lang/AbstractStringBuilder", name := "getValue", desc := "()[B" } : Jvm.MethodName) jdk_68_method_64_code (1 : Nat) (Option.some (Jvm.ClassFile.FieldType.array Jvm.ClassFile.FieldType.byte))).before args0 about1 = true := code_word (m := ⟨5, 9⟩) (meth := k5m9) (c := k5c9) (by decide +kernel) rfl rfl rfl (by decide +kernel)
set_option maxRecDepth 65536 in
theorem w_c38 : (Jvm.Cond.code ({ cls := "java/lang/StringBuilder", name := "length", desc := "()I" } : Jvm.MethodName) jdk_67_method_93_code (1 : Nat) (Option.some Jvm.ClassFile.FieldType.int)).before args0 about1 = true := code_word (m := ⟨8, 6⟩) (meth := k8m6) (c := k8c6) (by decide +kernel) rfl rfl rfl (by decide +kernel)
set_option maxRecDepth 65536 in
theorem w_c39 : (Jvm.Cond.code ({ cls := "java/lang/AbstractStringBuilder", name := "length", desc := "()I" } : Jvm.MethodName) jdk_68_method_6_code (1 : Nat) (Option.some Jvm.ClassFile.FieldType.int)).before args0 about1 = true := code_word (m := ⟨5, 2⟩) (meth := k5m2) (c := k5c2) (by decide +kernel) rfl rfl rfl (by decide +kernel)
set_option maxRecDepth 65536 in
theorem w_c40 : (Jvm.Cond.code ({ cls := "java/util/Arrays", name := "copyOfRange", desc := "([BII)[B" } : Jvm.MethodName) jdk_65_method_132_code (3 : Nat) (Option.some (Jvm.ClassFile.FieldType.array Jvm.ClassFile.FieldType.byte))).before args0 about1 = true := code_word (m := ⟨18, 3⟩) (meth := k18m3) (c := k18c3) (by decide +kernel) rfl rfl rfl (by decide +kernel)
set_option maxRecDepth 65536 in
theorem w_c41 : (Jvm.Cond.code ({ cls := "java/util/Arrays", name := "copyOfRangeByte", desc := "([BII)[B" } : Jvm.MethodName) jdk_65_method_133_code (5 : Nat) (Option.some (Jvm.ClassFile.FieldType.array Jvm.ClassFile.FieldType.byte))).before args0 about1 = true := code_word (m := ⟨18, 4⟩) (meth := k18m4) (c := k18c4) (by decide +kernel) rfl rfl rfl (by decide +kernel)
set_option maxRecDepth 65536 in
theorem w_c42 : (Jvm.Cond.code ({ cls := "java/util/Arrays", name := "checkLength", desc := "(II)V" } : Jvm.MethodName) jdk_65_method_131_code (2 : Nat) (Option.none : Option Jvm.ClassFile.FieldType)).before args0 about1 = true := code_word (m := ⟨18, 2⟩) (meth := k18m2) (c := k18c2) (by decide +kernel) rfl rfl rfl (by decide +kernel)
set_option maxRecDepth 65536 in
theorem w_c43 : (Jvm.Cond.code ({ cls := "com/example/liken/liken/cli/IndexSummaryIndexedPinLaw", name := "len", desc := "(J)I" } : Jvm.MethodName) method_3_code (4 : Nat) (Option.some Jvm.ClassFile.FieldType.int)).before args0 about1 = true := code_word (m := ⟨1, 2⟩) (meth := k1m2) (c := k1c2) (by decide +kernel) rfl rfl rfl (by decide +kernel)
set_option maxRecDepth 65536 in
theorem w_c44 : (Jvm.Cond.code ({ cls := "com/example/liken/liken/cli/IndexSummaryIndexedPinLaw", name := "digits", desc := "(J)I" } : Jvm.MethodName) method_2_code (2 : Nat) (Option.some Jvm.ClassFile.FieldType.int)).before args0 about1 = true := code_word (m := ⟨1, 1⟩) (meth := k1m1) (c := k1c1) (by decide +kernel) rfl rfl rfl (by decide +kernel)
set_option maxRecDepth 65536 in
theorem w_c45 : (Jvm.Cond.code ({ cls := "com/example/liken/liken/cli/IndexSummaryIndexedPinLaw", name := "num", desc := "(Ljava/lang/String;IJ)Z" } : Jvm.MethodName) method_4_code (10 : Nat) (Option.some Jvm.ClassFile.FieldType.boolean)).before args0 about1 = true := code_word (m := ⟨1, 3⟩) (meth := k1m3) (c := k1c3) (by decide +kernel) rfl rfl rfl (by decide +kernel)
set_option maxRecDepth 65536 in
theorem w_c46 : (Jvm.Cond.code ({ cls := "java/lang/String", name := "charAt", desc := "(I)C" } : Jvm.MethodName) jdk_42_method_56_code (2 : Nat) (Option.some Jvm.ClassFile.FieldType.char)).before args0 about1 = true := code_word (m := ⟨11, 3⟩) (meth := k11m3) (c := k11c3) (by decide +kernel) rfl rfl rfl (by decide +kernel)
set_option maxRecDepth 65536 in
theorem w_c47 : (Jvm.Cond.code ({ cls := "java/lang/String", name := "isLatin1", desc := "()Z" } : Jvm.MethodName) jdk_42_method_154_code (1 : Nat) (Option.some Jvm.ClassFile.FieldType.boolean)).before args0 about1 = true := code_word (m := ⟨11, 7⟩) (meth := k11m7) (c := k11c7) (by decide +kernel) rfl rfl rfl (by decide +kernel)
set_option maxRecDepth 65536 in
theorem w_c48 : (Jvm.Cond.code ({ cls := "java/lang/StringLatin1", name := "charAt", desc := "([BI)C" } : Jvm.MethodName) jdk_43_method_2_code (2 : Nat) (Option.some Jvm.ClassFile.FieldType.char)).before args0 about1 = true := code_word (m := ⟨19, 1⟩) (meth := k19m1) (c := k19c1) (by decide +kernel) rfl rfl rfl (by decide +kernel)
set_option maxRecDepth 65536 in
theorem w_c49 : (Jvm.Cond.code ({ cls := "java/lang/String", name := "checkIndex", desc := "(II)V" } : Jvm.MethodName) jdk_42_method_155_code (2 : Nat) (Option.none : Option Jvm.ClassFile.FieldType)).before args0 about1 = true := code_word (m := ⟨11, 8⟩) (meth := k11m8) (c := k11c8) (by decide +kernel) rfl rfl rfl (by decide +kernel)
set_option maxRecDepth 65536 in
theorem w_c50 : (Jvm.Cond.code ({ cls := "jdk/internal/util/Preconditions", name := "checkIndex", desc := "(IILjava/util/function/BiFunction;)I" } : Jvm.MethodName) jdk_41_method_11_code (3 : Nat) (Option.some Jvm.ClassFile.FieldType.int)).before args0 about1 = true := code_word (m := ⟨20, 1⟩) (meth := k20m1) (c := k20c1) (by decide +kernel) rfl rfl rfl (by decide +kernel)
set_option maxRecDepth 65536 in
theorem w_c51 : (Jvm.Cond.code ({ cls := "com/example/liken/liken/cli/IndexSummary", name := "indexed", desc := "(II)V" } : Jvm.MethodName) prog_3_method_2_code (3 : Nat) (Option.none : Option Jvm.ClassFile.FieldType)).before args0 about1 = true := code_word (m := ⟨2, 1⟩) (meth := k2m1) (c := k2c1) (by decide +kernel) rfl rfl rfl (by decide +kernel)
def codes1 : List Jvm.Cond := [Jvm.Cond.code x code maxLocals ret, Jvm.Cond.code ({ cls := "com/example/liken/liken/cli/IndexSummary", name := "<init>", desc := "()V" } : Jvm.MethodName) prog_3_method_1_code (1 : Nat) (Option.none : Option Jvm.ClassFile.FieldType), Jvm.Cond.code ({ cls := "java/lang/Object", name := "<init>", desc := "()V" } : Jvm.MethodName) object_method_1_code (1 : Nat) (Option.none : Option Jvm.ClassFile.FieldType), Jvm.Cond.code ({ cls := "com/example/liken/liken/cli/IndexSummary", name := "lines", desc := "(J)Ljava/lang/String;" } : Jvm.MethodName) prog_3_method_5_code (10 : Nat) (Option.some (Jvm.ClassFile.FieldType.object "java/lang/String")), Jvm.Cond.code ({ cls := "java/lang/StringBuilder", name := "<init>", desc := "()V" } : Jvm.MethodName) jdk_67_method_1_code (1 : Nat) (Option.none : Option Jvm.ClassFile.FieldType), Jvm.Cond.code ({ cls := "java/lang/AbstractStringBuilder", name := "<init>", desc := "(I)V" } : Jvm.MethodName) jdk_68_method_2_code (2 : Nat) (Option.none : Option Jvm.ClassFile.FieldType), Jvm.Cond.code ({ cls := "java/lang/StringBuilder", name := "append", desc := "(Ljava/lang/String;)Ljava/lang/StringBuilder;" } : Jvm.MethodName) jdk_67_method_7_code (2 : Nat) (Option.some (Jvm.ClassFile.FieldType.object "java/lang/StringBuilder")), Jvm.Cond.code ({ cls := "java/lang/AbstractStringBuilder", name := "append", desc := "(Ljava/lang/String;)Ljava/lang/AbstractStringBuilder;" } : Jvm.MethodName) jdk_68_method_22_code (3 : Nat) (Option.some (Jvm.ClassFile.FieldType.object "java/lang/AbstractStringBuilder")), Jvm.Cond.code ({ cls := "java/lang/String", name := "length", desc := "()I" } : Jvm.MethodName) jdk_42_method_54_code (1 : Nat) (Option.some Jvm.ClassFile.FieldType.int), Jvm.Cond.code ({ cls := "java/lang/String", name := "coder", desc := "()B" } : Jvm.MethodName) jdk_42_method_152_code (1 : Nat) (Option.some Jvm.ClassFile.FieldType.byte), Jvm.Cond.code ({ cls := "java/lang/AbstractStringBuilder", name := "ensureCapacityInternal", desc := "(I)V" } : Jvm.MethodName) jdk_68_method_9_code (3 : Nat) (Option.none : Option Jvm.ClassFile.FieldType), Jvm.Cond.code ({ cls := "java/lang/AbstractStringBuilder", name := "putStringAt", desc := "(ILjava/lang/String;)V" } : Jvm.MethodName) jdk_68_method_73_code (3 : Nat) (Option.none : Option Jvm.ClassFile.FieldType), Jvm.Cond.code ({ cls := "java/lang/AbstractStringBuilder", name := "inflateIfNeededFor", desc := "(Ljava/lang/String;)V" } : Jvm.MethodName) jdk_68_method_71_code (2 : Nat) (Option.none : Option Jvm.ClassFile.FieldType), Jvm.Cond.code ({ cls := "java/lang/String", name := "getBytes", desc := "([BIB)V" } : Jvm.MethodName) jdk_42_method_147_code (4 : Nat) (Option.none : Option Jvm.ClassFile.FieldType), Jvm.Cond.code ({ cls := "java/lang/StringBuilder", name := "append", desc := "(J)Ljava/lang/StringBuilder;" } : Jvm.MethodName) jdk_67_method_16_code (3 : Nat) (Option.some (Jvm.ClassFile.FieldType.object "java/lang/StringBuilder")), Jvm.Cond.code ({ cls := "java/lang/AbstractStringBuilder", name := "append", desc := "(J)Ljava/lang/AbstractStringBuilder;" } : Jvm.MethodName) jdk_68_method_33_code (5 : Nat) (Option.some (Jvm.ClassFile.FieldType.object "java/lang/AbstractStringBuilder")), Jvm.Cond.code ({ cls := "java/lang/Long", name := "stringSize", desc := "(J)I" } : Jvm.MethodName) jdk_35_method_15_code (6 : Nat) (Option.some Jvm.ClassFile.FieldType.int), Jvm.Cond.code ({ cls := "java/lang/AbstractStringBuilder", name := "isLatin1", desc := "()Z" } : Jvm.MethodName) jdk_68_method_68_code (1 : Nat) (Option.some Jvm.ClassFile.FieldType.boolean), Jvm.Cond.code ({ cls := "java/lang/Long", name := "getChars", desc := "(JI[B)I" } : Jvm.MethodName) jdk_35_method_14_code (11 : Nat) (Option.some Jvm.ClassFile.FieldType.int), Jvm.Cond.code ({ cls := "java/lang/AbstractStringBuilder", name := "newCapacity", desc := "(I)I" } : Jvm.MethodName) jdk_68_method_10_code (6 : Nat) (Option.some Jvm.ClassFile.FieldType.int), Jvm.Cond.code ({ cls := "jdk/internal/util/ArraysSupport", name := "newLength", desc := "(III)I" } : Jvm.MethodName) jdk_48_method_27_code (4 : Nat) (Option.some Jvm.ClassFile.FieldType.int), Jvm.Cond.code ({ cls := "java/lang/Math", name := "max", desc := "(II)I" } : Jvm.MethodName) jdk_29_method_65_code (2 : Nat) (Option.some Jvm.ClassFile.FieldType.int), Jvm.Cond.code ({ cls := "java/util/Arrays", name := "copyOf", desc := "([BI)[B" } : Jvm.MethodName) jdk_65_method_121_code (3 : Nat) (Option.some (Jvm.ClassFile.FieldType.array Jvm.ClassFile.FieldType.byte)), Jvm.Cond.code ({ cls := "java/lang/Math", name := "min", desc := "(II)I" } : Jvm.MethodName) jdk_29_method_69_code (2 : Nat) (Option.some Jvm.ClassFile.FieldType.int), Jvm.Cond.code ({ cls := "java/lang/StringBuilder", name := "append", desc := "(I)Ljava/lang/StringBuilder;" } : Jvm.MethodName) jdk_67_method_15_code (2 : Nat) (Option.some (Jvm.ClassFile.FieldType.object "java/lang/StringBuilder")), Jvm.Cond.code ({ cls := "java/lang/AbstractStringBuilder", name := "append", desc := "(I)Ljava/lang/AbstractStringBuilder;" } : Jvm.MethodName) jdk_68_method_32_code (4 : Nat) (Option.some (Jvm.ClassFile.FieldType.object "java/lang/AbstractStringBuilder")), Jvm.Cond.code ({ cls := "java/lang/Integer", name := "stringSize", desc := "(I)I" } : Jvm.MethodName) jdk_33_method_13_code (4 : Nat) (Option.some Jvm.ClassFile.FieldType.int), Jvm.Cond.code ({ cls := "java/lang/Integer", name := "getChars", desc := "(II[B)I" } : Jvm.MethodName) jdk_33_method_12_code (7 : Nat) (Option.some Jvm.ClassFile.FieldType.int), Jvm.Cond.code ({ cls := "java/lang/Math", name := "max", desc := "(JJ)J" } : Jvm.MethodName) jdk_29_method_66_code (4 : Nat) (Option.some Jvm.ClassFile.FieldType.long), Jvm.Cond.code ({ cls := "java/lang/Math", name := "multiplyExact", desc := "(JJ)J" } : Jvm.MethodName) jdk_29_method_30_code (10 : Nat) (Option.some Jvm.ClassFile.FieldType.long), Jvm.Cond.code ({ cls := "java/lang/Math", name := "abs", desc := "(J)J" } : Jvm.MethodName) jdk_29_method_61_code (2 : Nat) (Option.some Jvm.ClassFile.FieldType.long), Jvm.Cond.code ({ cls := "java/lang/StringBuilder", name := "append", desc := "(C)Ljava/lang/StringBuilder;" } : Jvm.MethodName) jdk_67_method_14_code (2 : Nat) (Option.some (Jvm.ClassFile.FieldType.object "java/lang/StringBuilder")), Jvm.Cond.code ({ cls := "java/lang/AbstractStringBuilder", name := "append", desc := "(C)Ljava/lang/AbstractStringBuilder;" } : Jvm.MethodName) jdk_68_method_31_code (2 : Nat) (Option.some (Jvm.ClassFile.FieldType.object "java/lang/AbstractStringBuilder")), Jvm.Cond.code ({ cls := "java/lang/StringLatin1", name := "canEncode", desc := "(C)Z" } : Jvm.MethodName) jdk_43_method_3_code (1 : Nat) (Option.some Jvm.ClassFile.FieldType.boolean), Jvm.Cond.code ({ cls := "java/lang/StringBuilder", name := "toString", desc := "()Ljava/lang/String;" } : Jvm.MethodName) jdk_67_method_42_code (1 : Nat) (Option.some (Jvm.ClassFile.FieldType.object "java/lang/String")), Jvm.Cond.code ({ cls := "java/lang/String", name := "<init>", desc := "(Ljava/lang/StringBuilder;)V" } : Jvm.MethodName) jdk_42_method_53_code (2 : Nat) (Option.none : Option Jvm.ClassFile.FieldType), Jvm.Cond.code ({ cls := "java/lang/String", name := "<init>", desc := "(Ljava/lang/AbstractStringBuilder;Ljava/lang/Void;)V" } : Jvm.MethodName) jdk_42_method_150_code (5 : Nat) (Option.none : Option Jvm.ClassFile.FieldType), Jvm.Cond.code ({ cls := "java/lang/AbstractStringBuilder", name := "getValue", desc := "()[B" } : Jvm.MethodName) jdk_68_method_64_code (1 : Nat) (Option.some (Jvm.ClassFile.FieldType.array Jvm.ClassFile.FieldType.byte)), Jvm.Cond.code ({ cls := "java/lang/StringBuilder", name := "length", desc := "()I" } : Jvm.MethodName) jdk_67_method_93_code (1 : Nat) (Option.some Jvm.ClassFile.FieldType.int), Jvm.Cond.code ({ cls := "java/lang/AbstractStringBuilder", name := "length", desc := "()I" } : Jvm.MethodName) jdk_68_method_6_code (1 : Nat) (Option.some Jvm.ClassFile.FieldType.int), Jvm.Cond.code ({ cls := "java/util/Arrays", name := "copyOfRange", desc := "([BII)[B" } : Jvm.MethodName) jdk_65_method_132_code (3 : Nat) (Option.some (Jvm.ClassFile.FieldType.array Jvm.ClassFile.FieldType.byte)), Jvm.Cond.code ({ cls := "java/util/Arrays", name := "copyOfRangeByte", desc := "([BII)[B" } : Jvm.MethodName) jdk_65_method_133_code (5 : Nat) (Option.some (Jvm.ClassFile.FieldType.array Jvm.ClassFile.FieldType.byte)), Jvm.Cond.code ({ cls := "java/util/Arrays", name := "checkLength", desc := "(II)V" } : Jvm.MethodName) jdk_65_method_131_code (2 : Nat) (Option.none : Option Jvm.ClassFile.FieldType), Jvm.Cond.code ({ cls := "com/example/liken/liken/cli/IndexSummaryIndexedPinLaw", name := "len", desc := "(J)I" } : Jvm.MethodName) method_3_code (4 : Nat) (Option.some Jvm.ClassFile.FieldType.int), Jvm.Cond.code ({ cls := "com/example/liken/liken/cli/IndexSummaryIndexedPinLaw", name := "digits", desc := "(J)I" } : Jvm.MethodName) method_2_code (2 : Nat) (Option.some Jvm.ClassFile.FieldType.int), Jvm.Cond.code ({ cls := "com/example/liken/liken/cli/IndexSummaryIndexedPinLaw", name := "num", desc := "(Ljava/lang/String;IJ)Z" } : Jvm.MethodName) method_4_code (10 : Nat) (Option.some Jvm.ClassFile.FieldType.boolean), Jvm.Cond.code ({ cls := "java/lang/String", name := "charAt", desc := "(I)C" } : Jvm.MethodName) jdk_42_method_56_code (2 : Nat) (Option.some Jvm.ClassFile.FieldType.char), Jvm.Cond.code ({ cls := "java/lang/String", name := "isLatin1", desc := "()Z" } : Jvm.MethodName) jdk_42_method_154_code (1 : Nat) (Option.some Jvm.ClassFile.FieldType.boolean), Jvm.Cond.code ({ cls := "java/lang/StringLatin1", name := "charAt", desc := "([BI)C" } : Jvm.MethodName) jdk_43_method_2_code (2 : Nat) (Option.some Jvm.ClassFile.FieldType.char), Jvm.Cond.code ({ cls := "java/lang/String", name := "checkIndex", desc := "(II)V" } : Jvm.MethodName) jdk_42_method_155_code (2 : Nat) (Option.none : Option Jvm.ClassFile.FieldType), Jvm.Cond.code ({ cls := "jdk/internal/util/Preconditions", name := "checkIndex", desc := "(IILjava/util/function/BiFunction;)I" } : Jvm.MethodName) jdk_41_method_11_code (3 : Nat) (Option.some Jvm.ClassFile.FieldType.int), Jvm.Cond.code ({ cls := "com/example/liken/liken/cli/IndexSummary", name := "indexed", desc := "(II)V" } : Jvm.MethodName) prog_3_method_2_code (3 : Nat) (Option.none : Option Jvm.ClassFile.FieldType)]
set_option maxRecDepth 65536 in
theorem codes_eq : words1.filter isCode = codes1 := rfl
theorem w_codes : ∀ c ∈ words1.filter isCode, c.before args0 about1 = true := by
  rw [codes_eq]
  intro c hc
  simp only [codes1, List.mem_cons, List.not_mem_nil, or_false] at hc
  rcases hc with rfl | rfl | rfl | rfl | rfl | rfl | rfl | rfl | rfl | rfl | rfl | rfl | rfl | rfl | rfl | rfl | rfl | rfl | rfl | rfl | rfl | rfl | rfl | rfl | rfl | rfl | rfl | rfl | rfl | rfl | rfl | rfl | rfl | rfl | rfl | rfl | rfl | rfl | rfl | rfl | rfl | rfl | rfl | rfl | rfl | rfl | rfl | rfl | rfl | rfl | rfl | rfl
  · exact w_c0
  · exact w_c1
  · exact w_c2
  · exact w_c3
  · exact w_c4
  · exact w_c5
  · exact w_c6
  · exact w_c7
  · exact w_c8
  · exact w_c9
  · exact w_c10
  · exact w_c11
  · exact w_c12
  · exact w_c13
  · exact w_c14
  · exact w_c15
  · exact w_c16
  · exact w_c17
  · exact w_c18
  · exact w_c19
  · exact w_c20
  · exact w_c21
  · exact w_c22
  · exact w_c23
  · exact w_c24
  · exact w_c25
  · exact w_c26
  · exact w_c27
  · exact w_c28
  · exact w_c29
  · exact w_c30
  · exact w_c31
  · exact w_c32
  · exact w_c33
  · exact w_c34
  · exact w_c35
  · exact w_c36
  · exact w_c37
  · exact w_c38
  · exact w_c39
  · exact w_c40
  · exact w_c41
  · exact w_c42
  · exact w_c43
  · exact w_c44
  · exact w_c45
  · exact w_c46
  · exact w_c47
  · exact w_c48
  · exact w_c49
  · exact w_c50
  · exact w_c51
set_option maxRecDepth 65536 in
theorem w_t1 : (words1.take 24).all (fun c => isCode c || c.before args0 about1) = true := by decide +kernel
set_option maxRecDepth 65536 in
theorem w_t2 : ((words1.drop 24).take 24).all (fun c => isCode c || c.before args0 about1) = true := by decide +kernel
set_option maxRecDepth 65536 in
theorem w_t3 : (((words1.drop 24).drop 24).take 24).all (fun c => isCode c || c.before args0 about1) = true := by decide +kernel
set_option maxRecDepth 65536 in
theorem w_t4 : ((((words1.drop 24).drop 24).drop 24).take 24).all (fun c => isCode c || c.before args0 about1) = true := by decide +kernel
set_option maxRecDepth 65536 in
theorem w_t5 : (((((words1.drop 24).drop 24).drop 24).drop 24).take 24).all (fun c => isCode c || c.before args0 about1) = true := by decide +kernel
set_option maxRecDepth 65536 in
theorem w_t6 : ((((((words1.drop 24).drop 24).drop 24).drop 24).drop 24).take 24).all (fun c => isCode c || c.before args0 about1) = true := by decide +kernel
set_option maxRecDepth 65536 in
theorem w_t7 : (((((((words1.drop 24).drop 24).drop 24).drop 24).drop 24).drop 24).take 24).all (fun c => isCode c || c.before args0 about1) = true := by decide +kernel
set_option maxRecDepth 65536 in
theorem w_t8 : ((((((((words1.drop 24).drop 24).drop 24).drop 24).drop 24).drop 24).drop 24).take 24).all (fun c => isCode c || c.before args0 about1) = true := by decide +kernel
set_option maxRecDepth 65536 in
theorem w_t9 : (((((((((words1.drop 24).drop 24).drop 24).drop 24).drop 24).drop 24).drop 24).drop 24).take 24).all (fun c => isCode c || c.before args0 about1) = true := by decide +kernel
set_option maxRecDepth 65536 in
theorem w_t10 : ((((((((((words1.drop 24).drop 24).drop 24).drop 24).drop 24).drop 24).drop 24).drop 24).drop 24).take 24).all (fun c => isCode c || c.before args0 about1) = true := by decide +kernel
set_option maxRecDepth 65536 in
theorem w_t11 : (((((((((((words1.drop 24).drop 24).drop 24).drop 24).drop 24).drop 24).drop 24).drop 24).drop 24).drop 24).take 24).all (fun c => isCode c || c.before args0 about1) = true := by decide +kernel
set_option maxRecDepth 65536 in
theorem w_t12 : ((((((((((((words1.drop 24).drop 24).drop 24).drop 24).drop 24).drop 24).drop 24).drop 24).drop 24).drop 24).drop 24).take 24).all (fun c => isCode c || c.before args0 about1) = true := by decide +kernel
set_option maxRecDepth 65536 in
theorem w_t13 : ((((((((((((words1.drop 24).drop 24).drop 24).drop 24).drop 24).drop 24).drop 24).drop 24).drop 24).drop 24).drop 24).drop 24).all (fun c => isCode c || c.before args0 about1) = true := by decide +kernel
theorem w_tables : (allAtoms (Jvm.Cond.code x code maxLocals ret :: tables_1)).before args0 about1 = true := by
  rw [allAtoms_all]
  show words1.all (fun c => c.before args0 about1) = true
  refine all_split ?_ w_codes
  rw [← List.take_append_drop 24 words1, List.all_append, w_t1, ← List.take_append_drop 24 (words1.drop 24), List.all_append, w_t2, ← List.take_append_drop 24 ((words1.drop 24).drop 24), List.all_append, w_t3, ← List.take_append_drop 24 (((words1.drop 24).drop 24).drop 24), List.all_append, w_t4, ← List.take_append_drop 24 ((((words1.drop 24).drop 24).drop 24).drop 24), List.all_append, w_t5, ← List.take_append_drop 24 (((((words1.drop 24).drop 24).drop 24).drop 24).drop 24), List.all_append, w_t6, ← List.take_append_drop 24 ((((((words1.drop 24).drop 24).drop 24).drop 24).drop 24).drop 24), List.all_append, w_t7, ← List.take_append_drop 24 (((((((words1.drop 24).drop 24).drop 24).drop 24).drop 24).drop 24).drop 24), List.all_append, w_t8, ← List.take_append_drop 24 ((((((((words1.drop 24).drop 24).drop 24).drop 24).drop 24).drop 24).drop 24).drop 24), List.all_append, w_t9, ← List.take_append_drop 24 (((((((((words1.drop 24).drop 24).drop 24).drop 24).drop 24).drop 24).drop 24).drop 24).drop 24), List.all_append, w_t10, ← List.take_append_drop 24 ((((((((((words1.drop 24).drop 24).drop 24).drop 24).drop 24).drop 24).drop 24).drop 24).drop 24).drop 24), List.all_append, w_t11, ← List.take_append_drop 24 (((((((((((words1.drop 24).drop 24).drop 24).drop 24).drop 24).drop 24).drop 24).drop 24).drop 24).drop 24).drop 24), List.all_append, w_t12, w_t13]
  rfl
set_option maxRecDepth 65536 in
theorem w_rest : rest_1_c.before args0 about1 = true := by decide +kernel
set_option maxRecDepth 65536 in
theorem w_case : (Jvm.Cond.and given_1 narrow_1).before args0 about1 = true := by decide +kernel
set_option maxRecDepth 65536 in
theorem w_consts : constsHeld consts_1 about1 := Jvm.Lit.constsHeldB_iff.mp (by decide +kernel)
theorem w_applies : (headSpec (Jvm.Cond.code x code maxLocals ret :: tables_1) room_1).applies x e0.platform about1 = true :=
  (Spec.applies_iff w_frames).mpr ⟨w_running, w_runnable, w_alone, w_named, w_hears, w_ripe, w_room, w_tables⟩
theorem atStart : AtStart classFile x code maxLocals ret World_1 tables_1 room_1 Calls_1 rest_1 Pre_1 launch0 p0 e0 about1 theMethod args0 below0 :=
  ⟨lists_1, trivial, launch0.admits_env _ _ _, launch0.least_env, fairChoices_fair.cas, fairChoices_fair.clock, w_frames, w_args, w_heap, w_applies, ⟨w_consts, trivial⟩, w_rest, w_case⟩
end start1
theorem witness_1 : WitnessClaimed_1 := ⟨start1.p0, start1.e0, start1.about1, start1.theMethod, start1.args0, start1.below0, start1.atStart⟩
end Jvm.Pilot.@@N@@
