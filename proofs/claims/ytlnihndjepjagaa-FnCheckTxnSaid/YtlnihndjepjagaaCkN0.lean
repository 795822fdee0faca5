/- Comparisons. -/
import Derived.Test.YtlnihndjepjagaaCkM0
import Derived.LaidEqlPtr
set_option linter.unusedVariables false
set_option linter.unusedSimpArgs false
namespace Go.Proofs.Ytlnihndjepjagaa
open Go Go.RowKit Gw

section
variable {P : Program} {n : Nat} {e : Env} {w : World} {d : Option Nat} {ty : TypeId} {pos : String} {af : Array Edge} {g : Option (Nat × Bool)}
theorem x_eqP {t u te : TypeId} {x y : Operand} {p : Addr} {q : Nat × Nat × Option Value} (hx : ev n e x = .pointer (some p)) (hy : ev n e y = .pointer (some p)) (hu : P.underlying t = some (.pointer te)) (hz : tin P te = some q) :
    (execOp (ev n e) ⟨d, .binOp .eql t x y u, ty, pos, af, g⟩).run P w = .ok (.value (.bool true)) w := by
  simp only [execOp]
  rw [hx, hy]
  refine run_v _ ?_
  have h1 : (eqGuard .eql t x y (.pointer (some p)) (.pointer (some p))).run P w = .ok () w := by simp [eqGuard]
  obtain ⟨j, hj, -⟩ : ∃ j, P.info? te = some j ∧ True := by
    unfold tin at hz
    cases h : P.info? te with
    | none => rw [h] at hz; cases hz
    | some j => exact ⟨j, rfl, trivial⟩
  simp only [Sem.run_bind, h1, Result.andThen_ok]
  rw [run_eql_ptr_same w p hu hj]
theorem x_eqK {t u tk : TypeId} {ms : Array (String × TypeId)} {x y : Operand} {a b : ByteArray} (hx : ev n e x = .iface tk (.string a)) (hy : ev n e y = .iface tk (.string b)) (hu : P.underlying t = some (.interface ms)) (hi : (P.info? tk).map (·.comparable) = some true)
    (hs : P.underlying tk = some .string) : (execOp (ev n e) ⟨d, .binOp .eql t x y u, ty, pos, af, g⟩).run P w = .ok (.value (.bool (a.toList == b.toList))) w := by
  simp only [execOp]
  rw [hx, hy]
  refine run_v _ ?_
  have h1 : (eqGuard .eql t x y (.iface tk (.string a)) (.iface tk (.string b))).run P w = .ok () w := by simp [eqGuard]
  obtain ⟨i, hi, hc⟩ := Option.map_eq_some_iff.1 hi
  have h2 : (Op.equal t (.iface tk (.string a)) (.iface tk (.string b))).run P w = .ok (a.toList == b.toList) w := by
    show (Op.equalIn (9998 + 1 + 1) t (.iface tk (.string a)) (.iface tk (.string b))).run P w = _
    rw [Op.equalIn]
    simp only [Sem.run_bind, run_underlying hu, Result.andThen_ok]
    simp [typeInfo, hi, hc, run_equalIn_string w 9998 tk a b hs]
  simp only [Sem.run_bind, h1, Result.andThen_ok, binOp]
  simp [h2]
end
theorem OpAt.inv {R : HP} {b : Nat} {x : RT} (h : OpAt R b x) : (∃ b1 b2, x.q.kind = 1 ∧ RC R b 0 [.iface 150 (pv b1)] ∧ RC R b1 0 [pv b2] ∧ RngAt R b2 x) ∨ (∃ b1 b2, x.q.kind = 4 ∧ RC R b 0 [.iface 161 (pv b1)] ∧ RC R b1 0 [pv b2] ∧ TxnAt R b2 x) := by
  cases h with
  | rng _ b1 b2 _ h1 hc hc1 hr => exact .inl ⟨b1, b2, h1, hc, hc1, hr⟩
  | txn _ b1 b2 _ v1 v2 v3 C T E h4 hc hc1 a1 a2 a3 a4 a5 a6 a7 a8 a9 => exact .inr ⟨b1, b2, h4, hc, hc1, v1, v2, v3, C, T, E, a1, a2, a3, a4, a5, ⟨a6, a7⟩, ⟨a8, a9⟩⟩

end Go.Proofs.Ytlnihndjepjagaa
