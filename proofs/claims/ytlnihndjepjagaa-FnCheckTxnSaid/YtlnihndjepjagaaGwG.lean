/- The own words of these proofs for a walk: a deferred closure. -/
import Derived.Test.YtlnihndjepjagaaGwF
import Derived.Recover
import Derived.Defers
set_option linter.unusedVariables false
set_option linter.unusedSimpArgs false
namespace Go.Proofs.Ytlnihndjepjagaa.Gw
open Go Go.RowKit
section
variable {P : Program} {n : Nat} {e : Env} {w : World} {K : Value → World → Prop} {Q : Exit → Act → World → Prop} {ops : Array Oper} {rest : List Oper} {ds : List Deferred}
  {d : Option Nat} {ty : TypeId} {pos : String} {af : Array Edge} {g : Option (Nat × Bool)} {l : List SP}
theorem S_defer {op : Op} {dd : Deferred} (hr : (execOp (ev n e) ⟨none, op, ty, pos, af, none⟩).run P w = .ok (.defer dd) w) (h : wpList P ops Q rest (mkA n e (dd :: ds)) w) :
    wpList P ops Q (⟨none, op, ty, pos, af, none⟩ :: rest) (mkA n e ds) w :=
  wpList_plain rfl fun K' hK => by
    unfold Oper.wp
    rw [eval_mkA, hr]
    show K' { tmps := (mkA n e ds).tmps, defers := dd :: (mkA n e ds).defers } w
    rw [mkA_defer]
    exact hK _ _ h
theorem Calls.intoD {f : FuncId} {fn : Func} {c : Code} {args : Array Value} {al : List Value} {R : Ending → World → Prop} (hf : P.funcs[f]? = some fn) (hb : fn.body = some c) (hn : fn.ntmps = n) (ha : args = al.toArray)
    (hl : Nat.ble al.length n = true) (h : c.wp P (bodyPostD P fn R) (mkA n (fun t => al.getD t undef) []) w) : Calls P f args w R := by
  subst ha; subst hn
  refine calls_of_wp_defers hf hb ?_
  rw [mkA_args al _ (by simpa using hl)]
  exact h
end
end Go.Proofs.Ytlnihndjepjagaa.Gw
