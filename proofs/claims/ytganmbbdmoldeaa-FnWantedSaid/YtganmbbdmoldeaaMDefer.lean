/-
  A function that defers ONE call of a builtin and always returns: its call, by the walk of its body: behind the body the builtin runs once and the results are read in the world that it leaves.
  Conditions: none beside the ones that each theorem states.
-/
import Derived.Test.YtganmbbdmoldeaaProg
import Derived.WalkKit
namespace Go.Proofs.Ytganmbbdmoldeaa.Mz
open Go.RowKit

/-- A deferred builtin that hands back a value: the frame goes on with the calls that are left. -/
theorem step_defer_value {P : Program} {fr : Frame} {cs : List Frame} {w w' : World} {d : Deferred} {ds : List Deferred} {v : Value}
    (hm : fr.mode = .returning) (hd : fr.defers = d :: ds) (ht : ∃ b ts t cn, d.target = .builtin b ts t cn)
    (hi : (invoke d.target d.args).run P w = .ok (.value v) w') :
    step P (lone fr cs w) = .next (lone { fr with defers := ds } cs w') := by
  obtain ⟨tg, xs⟩ := d
  obtain ⟨b, ts, t, cn, rfl⟩ := ht
  refine step_lone_go ?_
  simp only at hi
  simp [stepG, unwind, callDeferred, hm, hd, hi]

/-- What must hold where the body ends: one deferred builtin is left; it runs, then the results are read. -/
def bodyPostB (P : Program) (fn : Func) (R : Ending → World → Prop) : Exit → Act → World → Prop
  | .normal, a, w | .ret, a, w => ∃ d v w' r, a.defers = [d] ∧ (∃ b ts t cn, d.target = .builtin b ts t cn) ∧ (invoke d.target d.args).run P w = .ok (.value v) w' ∧
      (results fn a.tmps).run P w' = .ok r w' ∧ R (.returned r) w'
  | _, _, _ => False

theorem calls_of_wp_builtin {P : Program} {f : FuncId} {fn : Func} {c : Code} {args : Array Value} {w : World} {R : Ending → World → Prop}
    (hf : P.funcs[f]? = some fn) (hb : fn.body = some c)
    (h : c.wp P (bodyPostB P fn R) { tmps := args ++ Array.replicate (fn.ntmps - args.size) undef, defers := [] } w) : Calls P f args w R := by
  intro cs
  let b : Frame := { (default : Frame) with fn := f, kind := .normal }
  have henter : Frame.enter P f args .normal =
      b.at { tmps := args ++ Array.replicate (fn.ntmps - args.size) undef, defers := [] } [.code c] := by
    simp [Frame.enter, Frame.at, hf, hb, b]
  obtain ⟨e, a', w', hq, harr⟩ := h b [] cs
  rw [← henter] at harr
  cases e with
  | normal =>
    obtain ⟨d, v, w'', r, hd, ht, hi, hr, hR⟩ := hq
    have h2 := step_defer_value (P := P) (fr := { b.at a' [] with mode := .returning }) (cs := cs) (ds := []) rfl hd ht hi
    exact ⟨.returned r, w'', _, hR, Steps.trans (Steps.trans harr (.one step_end)) (.one h2), rfl, rfl, rfl, rfl, fn, hf, hr⟩
  | ret =>
    obtain ⟨d, v, w'', r, hd, ht, hi, hr, hR⟩ := hq
    obtain ⟨todo, hs⟩ := harr
    have h2 := step_defer_value (P := P) (fr := { b.at a' todo with mode := .returning }) (cs := cs) (ds := []) rfl hd ht hi
    exact ⟨.returned r, w'', _, hR, Steps.trans hs (.one h2), rfl, rfl, rfl, rfl, fn, hf, hr⟩
  | panic chain => exact hq.elim
  | exit id => exact hq.elim
  | goto l => exact hq.elim
  | outgrown => exact hq.elim

end Go.Proofs.Ytganmbbdmoldeaa.Mz
