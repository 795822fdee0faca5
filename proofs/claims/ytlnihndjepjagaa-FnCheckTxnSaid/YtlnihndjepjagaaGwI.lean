/- The own words of these proofs for a walk: '==' of structs, min and max. -/
import Derived.Test.YtlnihndjepjagaaGwG
import Derived.Laws.StructEq
set_option linter.unusedVariables false
set_option linter.unusedSimpArgs false
namespace Go.Proofs.Ytlnihndjepjagaa.Gw
open Go Go.RowKit
section
variable {P : Program} {n : Nat} {e : Env} {w : World} {K : Value → World → Prop} {Q : Exit → Act → World → Prop} {ops : Array Oper} {rest : List Oper} {ds : List Deferred}
  {d : Option Nat} {ty : TypeId} {pos : String} {af : Array Edge} {g : Option (Nat × Bool)} {l : List SP}
section
variable {dd : Nat} {xs ys : Array Value} {f : Field} {fs : List Field} {a b : Value} {r s : Bool}
theorem eqf_nil : (Op.eqFields dd xs ys []).run P w = .ok true w := by simp [Op.eqFields]
theorem eqf_cons (hn : (f.name == "_") = false) (ha : (part f.type xs f.offset).run P w = .ok a w) (hb : (part f.type ys f.offset).run P w = .ok b w) (he : (Op.equalIn dd f.type a b).run P w = .ok r w) (hr : (Op.eqFields dd xs ys fs).run P w = .ok s w) :
    (Op.eqFields dd xs ys (f :: fs)).run P w = .ok (r && s) w := by
  have hn' : f.name ≠ "_" := by simpa using hn
  rw [Op.eqFields]
  simp only [if_pos hn', Sem.run_bind, ha, hb, he, Result.andThen_ok]
  cases r
  · simp
  · simpa using hr
theorem eq_int {t : TypeId} {k : IntKind} {x y : Int} (hu : P.underlying t = some (.int k)) : (Op.equalIn (dd + 1) t (.int k x) (.int k y)).run P w = .ok (decide (x = y)) w := by
  simp only [Op.equalIn, Sem.run_bind, run_underlying hu, Result.andThen_ok, if_true, Sem.run_pure]
  by_cases h : x = y <;> simp [h]
theorem eq_bool {t : TypeId} {x y : Bool} (hu : P.underlying t = some .bool) : (Op.equalIn (dd + 1) t (.bool x) (.bool y)).run P w = .ok (x == y) w := by
  simp only [Op.equalIn, Sem.run_bind, run_underlying hu, Result.andThen_ok, Sem.run_pure]
theorem eq_str {t : TypeId} {x y : ByteArray} (hu : P.underlying t = some .string) : (Op.equalIn (dd + 1) t (.string x) (.string y)).run P w = .ok (x == y) w := by
  simp only [Op.equalIn, Sem.run_bind, run_underlying hu, Result.andThen_ok, Sem.run_pure]
theorem eq_struct {t : TypeId} {fs : Array Field} (hu : P.underlying t = some (.struct fs)) (hp : P.stoodInHeld t = false) (h : (Op.eqFields dd xs ys fs.toList).run P w = .ok r w) :
    (Op.equalIn (dd + 1) t (.agg xs) (.agg ys)).run P w = .ok r w := by
  have hf : P.fieldsOf t = fs := by simp [Program.fieldsOf, hu]
  rw [run_equalIn_struct (P := P) w dd t xs ys (by rw [hf]; exact hu) hp, hf]
  exact h
end
theorem x_eqS {t u : TypeId} {x y : Operand} {xs ys : Array Value} {r : Bool} (hx : ev n e x = .agg xs) (hy : ev n e y = .agg ys) (hq : P.eqGuardType P.depth t = false) (h : (Op.equalIn (9999 + 1) t (.agg xs) (.agg ys)).run P w = .ok r w) :
    (execOp (ev n e) ⟨d, .binOp .eql t x y u, ty, pos, af, g⟩).run P w = .ok (.value (.bool r)) w := by
  simp only [execOp]
  rw [hx, hy]
  refine run_v _ ?_
  have h1 : (eqGuard .eql t x y (.agg xs) (.agg ys)).run P w = .ok () w := by simp [eqGuard, hq]
  simp only [Sem.run_bind, h1, Result.andThen_ok, binOp]
  have h2 : (Op.equal t (.agg xs) (.agg ys)).run P w = .ok r w := h
  simp [h2]
theorem x_neqS {t u : TypeId} {x y : Operand} {xs ys : Array Value} {r : Bool} (hx : ev n e x = .agg xs) (hy : ev n e y = .agg ys) (hq : P.eqGuardType P.depth t = false) (h : (Op.equalIn (9999 + 1) t (.agg xs) (.agg ys)).run P w = .ok r w) :
    (execOp (ev n e) ⟨d, .binOp .neq t x y u, ty, pos, af, g⟩).run P w = .ok (.value (.bool !r)) w := by
  simp only [execOp]
  rw [hx, hy]
  refine run_v _ ?_
  have h1 : (eqGuard .neq t x y (.agg xs) (.agg ys)).run P w = .ok () w := by simp [eqGuard, hq]
  simp only [Sem.run_bind, h1, Result.andThen_ok, binOp]
  have h2 : (Op.equal t (.agg xs) (.agg ys)).run P w = .ok r w := h
  simp [h2]
theorem x_eqB {t u : TypeId} {x y : Operand} {a b : Bool} (hx : ev n e x = .bool a) (hy : ev n e y = .bool b) (hu : P.underlying t = some .bool) :
    (execOp (ev n e) ⟨d, .binOp .eql t x y u, ty, pos, af, g⟩).run P w = .ok (.value (.bool (a == b))) w := by
  simp only [execOp]
  rw [hx, hy]
  refine run_v _ ?_
  have h1 : (eqGuard .eql t x y (.bool a) (.bool b)).run P w = .ok () w := by simp [eqGuard]
  have h2 : (Op.equal t (.bool a) (.bool b)).run P w = .ok (a == b) w := eq_bool (dd := 9999) hu
  simp only [Sem.run_bind, h1, Result.andThen_ok, binOp]
  simp [h2]
theorem x_neqB {t u : TypeId} {x y : Operand} {a b : Bool} (hx : ev n e x = .bool a) (hy : ev n e y = .bool b) (hu : P.underlying t = some .bool) :
    (execOp (ev n e) ⟨d, .binOp .neq t x y u, ty, pos, af, g⟩).run P w = .ok (.value (.bool (!(a == b)))) w := by
  simp only [execOp]
  rw [hx, hy]
  refine run_v _ ?_
  have h1 : (eqGuard .neq t x y (.bool a) (.bool b)).run P w = .ok () w := by simp [eqGuard]
  have h2 : (Op.equal t (.bool a) (.bool b)).run P w = .ok (a == b) w := eq_bool (dd := 9999) hu
  simp only [Sem.run_bind, h1, Result.andThen_ok, binOp]
  simp [h2]
theorem min_ite (a b : Int) : (if b < a then b else a) = min a b := by rw [Int.min_def]; split <;> split <;> omega
theorem max_ite (a b : Int) : (if a < b then b else a) = max a b := by rw [Int.max_def]; split <;> split <;> omega
theorem x_min2 {o1 o2 : Operand} {at_ : Array TypeId} {k : IntKind} {a b c : Int} (h1 : ev n e o1 = .int k a) (h2 : ev n e o2 = .int k b) (hv : (if b < a then b else a) = c) :
    (execOp (ev n e) ⟨d, .call { callee := .builtin .min, args := #[o1, o2], argTypes := at_ }, ty, pos, af, g⟩).run P w = .ok (.value (.int k c)) w := by
  subst hv
  simp only [execOp, resolve, Sem.run_bind, Sem.run_pure, Result.andThen_ok, invoke, builtin]
  simp [h1, h2, Builtin.min_, Builtin.min2]
theorem x_max2 {o1 o2 : Operand} {at_ : Array TypeId} {k : IntKind} {a b c : Int} (h1 : ev n e o1 = .int k a) (h2 : ev n e o2 = .int k b) (hv : (if a < b then b else a) = c) :
    (execOp (ev n e) ⟨d, .call { callee := .builtin .max, args := #[o1, o2], argTypes := at_ }, ty, pos, af, g⟩).run P w = .ok (.value (.int k c)) w := by
  subst hv
  simp only [execOp, resolve, Sem.run_bind, Sem.run_pure, Result.andThen_ok, invoke, builtin]
  simp [h1, h2, Builtin.max_, Builtin.max2]
end
end Go.Proofs.Ytlnihndjepjagaa.Gw
