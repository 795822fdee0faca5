/- Proved: whatever revision is given, its bytes are its main number as eight bytes, the greatest one first, a line below, and the number of the change likewise. For every input; no condition is added. -/
import Derived.Test.YtfdnfnjmphjdnaaRows
import Derived.Test.YtfdnfnjmphjdnaaGwH
import Derived.Test.YtfdnfnjmphjdnaaRvC
import Derived.Lib.SmallJoins
namespace Go.Proofs.Ytfdnfnjmphjdnaa
open Go Go.RowKit Go.ChangeShapes Go.WideShapes Go.ChangeAt Go.Joins Gw
theorem Try.own : ownKnob Try.prog.godebug = none := by kernel_rfl
theorem Try.laidOut : laidOutB Try.prog = true := by kernel_rfl
theorem Try.cells23 : Try.prog.cellsOf 23 = 2 := by kernel_rfl
set_option maxRecDepth 100000 in
theorem revBytes_lifted (os : Os) (started : os.Started) (H : Type) (enc : TypeId × Value → H) :
    ReturnsInHanded {} Try.checked os 3 .any (Rows.fnRevBytesSpec.pre6 enc Try.prog Try.f3 [] false) (Rows.fnRevBytesSpec.post enc Try.prog Try.f3 false true false false) := by
  refine law_lift (C := Try.checked) (tb := 4) Try.own started (by kernel_rfl) Try.func3
    (ChangeSpec.witness6 (enc := enc) (C := Try.checked) false ⟨#[], #[.agg #[.int .i64 0, .int .i64 0]], []⟩ 8 (by kernel_rfl) (by kernel_rfl) (by kernel_rfl) (by kernel_rfl))
    Try.laidOut (by kernel_rfl) rfl rfl Try.underlying4 ?_ ?_
  · intro ds hd
    match ds, hd with
    | [d], _ => rfl
  · intro W base args ds before hval0 hA0 _
    have hval : ∀ (j : Nat) t v, Try.f3.params[j]? = some t → args[j]? = some v → Value.okWide Try.prog W .any base t v := hval0
    have hA : DataW.TrodAll enc Try.prog W 0 (fun _ => true) true Try.f3.params.toList args.toList ds before := hA0
    rw [Try.params3] at hA hval
    obtain ⟨v0, d0, rfl, rfl, h0⟩ := trodAll_one hA
    obtain ⟨c0, c1, y0, y1, mm, rfl, rfl, rfl, hy0, hy1⟩ := open_agg2 Try.underlying23 (by kernel_rfl) Try.cells23 (hval 0 23 v0 rfl rfl) h0
    obtain ⟨a, e0, rfl, wa⟩ := DataW.trod_int Try.underlying2 hy0
    obtain ⟨b, e1, rfl, wb⟩ := DataW.trod_int Try.underlying2 hy1
    simp at e0 e1
    subst e0 e1
    exact law_calls ((fnRevBytes (hp W) a b).mono fun v post h => h.1)
theorem revBytes_holds : Rows.FnRevBytesSaid :=
  OpenClaim.holds_of_wide 3 Try.f3 rfl rfl rfl rfl rfl rfl rfl ⟨rfl, rfl, rfl, rfl, rfl⟩ rfl rfl rfl rfl rfl (by kernel_rfl) Try.func3 (by kernel_rfl)
    (of_decide_eq_true (by kernel_rfl)) (by unfold Func.isWrapper; rw [if_neg (of_decide_eq_false (by kernel_rfl))]; exact ⟨rfl, rfl⟩)
    (fun os started H enc _ => revBytes_lifted os started H enc)
#print axioms revBytes_holds
end Go.Proofs.Ytfdnfnjmphjdnaa
