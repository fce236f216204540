/- A part of the proof: what functions of the program do, step by step. -/
import Derived.Test.YtnomlnfdmoecoaaDoorH0
set_option linter.unusedVariables false
set_option linter.unusedSimpArgs false
namespace Go.Proofs.Eng
open Go.RowKit
theorem op_ext {C : Ctx} {ks : List Kont} {E : Env} {Ls : List Hp} {ops : Array Oper} {rest : List Oper} {ty : Nat} {pos : String} {af : Array Edge} {d : Nat} {f : Nat} {fn : Func} {e : Array Value → Sem Value} {v : Value} {args : Array Operand} {ats : Array Nat} {vs : List Value}
    (hf : C.P.funcs[f]? = some fn) (hname : (fn.name == "runtime.NumGoroutine") = false) (hb : fn.body.isNone = true) (hn' : Extern.findNext fn = none) (he : Extern.find fn = some e) (hr : ∀ w, (e vs.toArray).run C.P w = .ok v w)
    (hn : Nat.blt d C.fn.ntmps = true) (hx : evs E args.toList = some vs) (k : Ops C ops rest ks ((d, v) :: E) Ls) : Ops C ops (⟨some d, .call { callee := .value (.func f), args := args, argTypes := ats }, ty, pos, af, none⟩ :: rest) ks E Ls :=
  ops_pure hn (fun a w ft gs => by
    have ea : args.map a.eval = vs.toArray := by
      apply Array.ext'
      simp [ft.evs hx]
    simp only [execOp, resolve, Act.eval, Deferred.ofValue, ea, Sem.run_bind, Sem.run_pure, Result.andThen_ok, invoke, Array.append_empty, Array.empty_append, run_callFunc_extern hf hname hb hn' he, hr]) k
set_option maxRecDepth 100000 in
theorem recApp_any (w : World) : Calls Tryd.prog 91 #[] w (Post w ([] : List Hp).flatten (fun _ : Unit => .tuple #[]) (fun _ => ([] : List Hp).flatten) (fun _ => True)) := by
  refine enter [] Tryd.func91 rfl rfl (At.nil w) (Le.refl _) ?_
  intro R hR
  refine run_seq ?_
  refine run_region rfl ?_
  refine op_ext (v := .int .u8 0) (e := fun _ => pure (.int .u8 0)) (vs := []) Tryd.func94 (by kernel_rfl) (by kernel_rfl) (by kernel_rfl) (by kernel_rfl) (fun w => rfl) rfl rfl ?_
  refine op_cmp_t rfl rfl rfl rfl (by first | (simp only [cmpP]; done) | (simp only [cmpP]; omega)) ?_
  refine ops_nil ?_
  refine fin_code ?_
  refine run_cond_t rfl ?_
  refine run_region rfl ?_
  refine op_ext (v := .tuple #[]) (e := Extern.CryptoHooks.nothing) (vs := [.int .u8 2]) Tryd.func95 (by kernel_rfl) (by kernel_rfl) (by kernel_rfl) (by kernel_rfl) (fun w => rfl) rfl rfl ?_
  refine ops_nil ?_
  refine fin_ret0 (.inr rfl) rfl ?_
  intro w' g
  exact hR _ _ (post_of g () trivial rfl (by (apply le_of_picks; (repeat (first | exact Picks.nil | (apply Picks.cons; (· (repeat (first | exact Pick.here | apply Pick.there)))) | apply Picks.empty)))))
end Go.Proofs.Eng
