/- The own words of these proofs: functions that hand what they made to what is only read. -/
import Derived.Test.YtlnihndjepjagaaGwV
set_option linter.unusedVariables false
set_option linter.unusedSimpArgs false
set_option linter.unusedSectionVars false
namespace Go.Proofs.Ytlnihndjepjagaa.Gw
open Go Go.RowKit
section
variable {P : Program} {n : Nat} {e : Env} {w : World} {K : Value → World → Prop} {Q : Exit → Act → World → Prop} {d : Option Nat} {ty : TypeId} {pos : String} {af : Array Edge} {g : Option (Nat × Bool)} {l : List SP} {ds : List Deferred}
/-- As 'Tri'; what is only read may have grown. -/
def TriG (P : Program) (f : FuncId) (args : Array Value) (R : HP) (pre : List SP) (Q : HP → Value → List SP → Prop) : Prop :=
  ∀ (w : World) (F : List SP), Holds w (ro R :: (pre ++ F)) →
    Calls P f args w fun e w' => ∃ R' v post, e = .returned v ∧ Sub R R' ∧ Q R' v post ∧ Same w w' ∧ Holds w' (ro R' :: (post ++ F))
theorem TriG.into {f : FuncId} {fn : Func} {c : Code} {args : Array Value} {al : List Value} {R : HP} {pre : List SP} {Qc : HP → Value → List SP → Prop} (hf : P.funcs[f]? = some fn) (hb : fn.body = some c) (hn : fn.ntmps = n)
    (ha : args = al.toArray) (hl : Nat.ble al.length n = true)
    (h : ∀ w F, Holds w (ro R :: (pre ++ F)) → c.wp P (bodyPost P fn fun r w' => ∃ R' v post, r = .returned v ∧ Sub R R' ∧ Qc R' v post ∧ Same w w' ∧ Holds w' (ro R' :: (post ++ F))) (mkA n (fun t => al.getD t undef) []) w) :
    TriG P f args R pre Qc := fun w F hh => Calls.into hf hb hn ha hl (h w F hh)
theorem TriG.intoN {f : FuncId} {fn : Func} {c : Code} {args : Array Value} {al : List Value} {R : HP} {pre : List SP} {Qc : HP → Value → List SP → Prop} (hf : P.funcs[f]? = some fn) (hb : fn.body = some c) (hn : fn.ntmps = n)
    (ha : args = al.toArray) (hl : Nat.ble al.length n = true)
    (h : ∀ w F, Holds w (ro R :: (pre ++ F)) → c.wp P (bodyPostN P fn fun r w' => ∃ R' v post, r = .returned v ∧ Sub R R' ∧ Qc R' v post ∧ Same w w' ∧ Holds w' (ro R' :: (post ++ F))) (mkA n (fun t => al.getD t undef) []) w) :
    TriG P f args R pre Qc := fun w F hh => Calls.intoN hf hb hn ha hl (h w F hh)
theorem T_callG {f : FuncId} {x : Operand} {lo : List Operand} {cl al : List Value} {at_ : Array TypeId} {R : HP} {pre F : List SP} {Qc : HP → Value → List SP → Prop}
    (hx : ev n e x = .func (.func f) #[] cl.toArray) (ha : lo.map (ev n e) ++ cl = al) (hc : callable P f = true) (ht : TriG P f al.toArray R pre Qc) (h : Holds w (ro R :: (pre ++ F)))
    (k : ∀ R' v post w', Sub R R' → Qc R' v post → Same w w' → Holds w' (ro R' :: (post ++ F)) → K v w') : Stp P n e ⟨d, .call { callee := .value x, args := lo.toArray, argTypes := at_ }, ty, pos, af, g⟩ w K :=
  T_callW hx ha hc ((ht w F h).mono fun r w' ⟨R', v, post, er, hs, q, s, hh⟩ => ⟨v, er, k R' v post w' hs q s hh⟩)
theorem T_invokeG {f : FuncId} {x : Operand} {lo : List Operand} {t : TypeId} {v recv : Value} {nm : String} {al : List Value} {at_ : Array TypeId} {R : HP} {pre F : List SP} {Qc : HP → Value → List SP → Prop} (hx : ev n e x = .iface t v)
    (hm : ∀ w, (method (P.types.size + Made.depth) t v nm).run P w = .ok (f, recv) w) (ha : recv :: lo.map (ev n e) = al) (hc : callable P f = true)
    (ht : TriG P f al.toArray R pre Qc) (h : Holds w (ro R :: (pre ++ F)))
    (k : ∀ R' v post w', Sub R R' → Qc R' v post → Same w w' → Holds w' (ro R' :: (post ++ F)) → K v w') : Stp P n e ⟨d, .call { callee := .invoke x nm, args := lo.toArray, argTypes := at_ }, ty, pos, af, g⟩ w K :=
  T_invokeW hx hm ha hc ((ht w F h).mono fun r w' ⟨R', v, post, er, hs, q, s, hh⟩ => ⟨v, er, k R' v post w' hs q s hh⟩)
end
end Go.Proofs.Ytlnihndjepjagaa.Gw
