/-
  A function that leaves behind a deferred call of a function AND A DEFERRED BUILTIN ('defer close(ch)'): the kit's 'Leaves' knows deferred functions alone. Said over the machine's own steps.
-/
import Derived.Defers
import Derived.Tactics
namespace Go.Proofs.Ybulkcqho
section
variable {P : Program}

/-- The frame that returns, its deferred calls still to be made, comes to an ending of which R holds. -/
def FinD (P : Program) (f : FuncId) (R : Ending → World → Prop) (ds : List Deferred) (tmps : Array Value) (w : World) : Prop :=
  ∀ (fr : Frame) (cs : List Frame), fr.mode = .returning → fr.defers = ds → fr.tmps = tmps → fr.fn = f → fr.kind = .normal →
    ∃ e w' fr', R e w' ∧ Comes P (lone fr cs w) (lone fr' cs w') e ∧ fr'.fn = f ∧ fr'.leaving P w' e

theorem fin_nil {f : FuncId} {fn : Func} {R : Ending → World → Prop} {tmps : Array Value} {w : World} {v : Value} (hf : P.funcs[f]? = some fn)
    (hr : (results fn tmps).run P w = .ok v w) (hR : R (.returned v) w) : FinD P f R [] tmps w := by
  intro fr cs hm hd ht hfn hk
  subst hfn
  exact ⟨.returned v, w, fr, hR, Steps.refl P _, rfl, hm, hd, hk, fn, hf, ht ▸ hr⟩

/-- A deferred call of a function, which returns and leaves the frame's mode. -/
theorem fin_call {f g : FuncId} {R : Ending → World → Prop} {tmps : Array Value} {w : World} {fv : Fn} {cap dargs args : Array Value} {ds : List Deferred}
    (hi : (invoke (.fn fv cap) dargs).run P w = .ok (.enter g args) w)
    (h : CallsD P g args .returning w fun e u' w' => u' = .returning ∧ ∃ v, e = .returned v ∧ FinD P f R ds tmps w') :
    FinD P f R ({ target := .fn fv cap, args := dargs } :: ds) tmps w := by
  intro fr cs hm hd ht hfn hk
  have h1 := step_defer (P := P) (cs := cs) (w := w) (fr := fr) (by rw [hm]; simp) hd rfl hi
  obtain ⟨e, u', w', frX, ⟨rfl, v, rfl, hF⟩, hsteps, hkX, hgo⟩ := h { fr with defers := ds } cs hm
  have h2 := step_going_returned (c := { { fr with defers := ds } with mode := .returning }) (cs := cs) hkX hgo
  obtain ⟨e', w'', fr', hR', hs', hfn', hl'⟩ := hF { fr with defers := ds, mode := .returning } cs rfl rfl ht hfn hk
  exact ⟨e', w'', fr', hR', Comes.of_steps (.head h1 (Steps.trans hsteps (.one h2))) hs', hfn', hl'⟩

/-- A deferred builtin that yields a value. -/
theorem fin_builtin {f : FuncId} {R : Ending → World → Prop} {tmps : Array Value} {w w' : World} {b : Builtin} {ats : Array TypeId} {ty : TypeId} {consts : Array Bool} {dargs : Array Value} {v : Value} {ds : List Deferred}
    (hi : (invoke (.builtin b ats ty consts) dargs).run P w = .ok (.value v) w')
    (h : FinD P f R ds tmps w') : FinD P f R ({ target := .builtin b ats ty consts, args := dargs } :: ds) tmps w := by
  intro fr cs hm hd ht hfn hk
  have h1 : step P (lone fr cs w) = .next (lone { fr with defers := ds } cs w') := by
    refine step_lone_go ?_
    simp [stepG, unwind, callDeferred, hm, hd, hi]
  obtain ⟨e', w'', fr', hR', hs', hfn', hl'⟩ := h { fr with defers := ds } cs hm rfl ht hfn hk
  exact ⟨e', w'', fr', hR', Comes.of_steps (.one h1) hs', hfn', hl'⟩

/-- What the body must come to: a return whose deferred calls can be made. -/
def bodyPostF (P : Program) (f : FuncId) (R : Ending → World → Prop) : Exit → Act → World → Prop
  | .normal, a, w | .ret, a, w => FinD P f R a.defers a.tmps w
  | .outgrown, _, w => R .outgrown w
  | _, _, _ => False

theorem calls_of_wp_fin {f : FuncId} {fn : Func} {c : Code} {args : Array Value} {w : World} {R : Ending → World → Prop}
    (hf : P.funcs[f]? = some fn) (hb : fn.body = some c)
    (h : c.wp P (bodyPostF P f R) { tmps := args ++ Array.replicate (fn.ntmps - args.size) undef, defers := [] } w) : Calls P f args w R := by
  intro cs
  let b : Frame := { (default : Frame) with fn := f, kind := .normal }
  have henter : Frame.enter P f args .normal =
      b.at { tmps := args ++ Array.replicate (fn.ntmps - args.size) undef, defers := [] } [.code c] := by
    simp [Frame.enter, Frame.at, hf, hb, b]
  obtain ⟨e, a', w', hq, harr⟩ := h b [] cs
  rw [← henter] at harr
  cases e with
  | normal =>
    obtain ⟨e', w'', fr', hR, hs, hfn, hl⟩ := hq { b.at a' [] with mode := .returning } cs rfl rfl rfl rfl rfl
    exact ⟨e', w'', fr', hR, Comes.of_steps (Steps.trans harr (.one step_end)) hs, hfn, hl⟩
  | ret =>
    obtain ⟨todo, hs₀⟩ := harr
    obtain ⟨e', w'', fr', hR, hs, hfn, hl⟩ := hq { b.at a' todo with mode := .returning } cs rfl rfl rfl rfl rfl
    exact ⟨e', w'', fr', hR, Comes.of_steps hs₀ hs, hfn, hl⟩
  | panic chain => exact hq.elim
  | exit id => exact hq.elim
  | goto l => exact hq.elim
  | outgrown => exact ⟨.outgrown, w', b, hq, harr.resolve_left (by simp [b]), rfl, trivial⟩
end
end Go.Proofs.Ybulkcqho
