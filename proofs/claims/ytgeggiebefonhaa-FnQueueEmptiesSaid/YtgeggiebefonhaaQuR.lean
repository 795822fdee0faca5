/- Proved: for all leases and times, registered one after the other, some of them anew, taking all out tells each lease once, with its last time, by rising times. For every input; no condition is added. -/
import Derived.Test.YtgeggiebefonhaaRows
import Derived.Test.YtgeggiebefonhaaGwL
import Derived.Test.YtgeggiebefonhaaQuP0
import Derived.Lib.SmallJoins
set_option linter.unusedVariables false
set_option linter.unusedSimpArgs false
namespace Go.Proofs.Ytgeggiebefonhaa
open Go Go.RowKit Go.ChangeShapes Go.WideShapes Go.ChangeAt Go.Joins Gw
theorem queueEmpties_own : ownKnob Try.prog.godebug = none := by kernel_rfl
theorem queueEmpties_laidOut : laidOutB Try.prog = true := by kernel_rfl
theorem queueEmpties_i64 {a : Int} (h : (Lit.int .i64 a).wf = true) : -9223372036854775808 ≤ a ∧ a < 9223372036854775808 := by
  simp only [Lit.wf, IntKind.min, IntKind.max, IntKind.signed, IntKind.bits, Bool.and_eq_true, decide_eq_true_eq, if_true] at h
  omega
set_option maxRecDepth 100000 in
theorem queueEmpties_lifted (os : Os) (started : os.Started) (H : Type) (enc : TypeId × Value → H) :
    ReturnsInHanded {} Try.checked os 3 .any (Rows.fnQueueEmptiesSpec.pre6 enc Try.prog Try.f3 [] false) (Rows.fnQueueEmptiesSpec.post enc Try.prog Try.f3 false true false false) := by
  refine law_lift (C := Try.checked) (tb := 4) queueEmpties_own started (by kernel_rfl) Try.func3
    (ChangeSpec.witness6 (enc := enc) (C := Try.checked) false ⟨#[], #[(Value.slice none 0 0), (Value.slice none 0 0)], []⟩ 8 (by kernel_rfl) (by kernel_rfl) (by kernel_rfl) (by kernel_rfl))
    queueEmpties_laidOut (by kernel_rfl) rfl rfl Try.underlying4 ?_ ?_
  · intro ds hd
    match ds, hd with
    | [d0, d1], _ => rfl
  · intro W base args ds before hval0 hA0 hsz
    have hval : ∀ (j : Nat) t v, Try.f3.params[j]? = some t → args[j]? = some v → Value.okWide Try.prog W .any base t v := hval0
    have hA : DataW.TrodAll enc Try.prog W 0 (fun _ => true) true Try.f3.params.toList args.toList ds before := hA0
    rw [Try.params3] at hA hval
    obtain ⟨v0, vs0, e0, ds0, p0, q0, hargs, rfl, rfl, h0, r0⟩ := trodAll_cons hA
    obtain ⟨v1, vs1, e1, ds1, p1, q1, rfl, rfl, rfl, h1, r1⟩ := trodAll_cons r0
    obtain ⟨rfl, rfl, rfl⟩ := trodAll_nil r1
    obtain rfl : args = #[v0, v1] := by apply Array.ext'; simpa using hargs
    have rd0 := reads_of_trod h0
    obtain ⟨sa0, sn0, sc0, rfl⟩ := okWide_slice Try.underlying22 (hval 0 22 v0 rfl rfl)
    have rd1 := reads_of_trod h1
    obtain ⟨sa1, sn1, sc1, rfl⟩ := okWide_slice Try.underlying22 (hval 1 22 v1 rfl rfl)
    obtain ⟨fuel0, hr0⟩ := Reads.some_ rd0
    obtain _ | fuel0 := fuel0
    · exact hr0.zero.elim
    obtain ⟨q0, n0, k0, l0, e0, r0, p0, -⟩ := open_list (n := 1) (fun a : Int => [Value.int .i64 a]) (fun a : Int => (Lit.int .i64 a).wf = true) (by kernel_rfl) (by decide) (fun _ => rfl) Try.underlying22 (fun xs hx => elem_int Try.underlying2 hx) hr0
    rw [flatMap_one] at r0
    have r0 : RS (hp W) 1 _ l0.length (l0.map (Value.int .i64)) := r0
    obtain ⟨fuel1, hr1⟩ := Reads.some_ rd1
    obtain _ | fuel1 := fuel1
    · exact hr1.zero.elim
    obtain ⟨q1, n1, k1, l1, e1, r1, p1, -⟩ := open_list (n := 1) (fun a : Int => [Value.int .i64 a]) (fun a : Int => (Lit.int .i64 a).wf = true) (by kernel_rfl) (by decide) (fun _ => rfl) Try.underlying22 (fun xs hx => elem_int Try.underlying2 hx) hr1
    rw [flatMap_one] at r1
    have r1 : RS (hp W) 1 _ l1.length (l1.map (Value.int .i64)) := r1
    exact law_calls ((fnQueueEmpties (hp W) _ _ l0 l1 r0 r1).mono fun v post h => h.1)
theorem queueEmpties_holds : Rows.FnQueueEmptiesSaid :=
  OpenClaim.holds_of_wide 3 Try.f3 rfl rfl rfl rfl rfl rfl rfl ⟨rfl, rfl, rfl, rfl, rfl⟩ rfl rfl rfl rfl rfl (by kernel_rfl) Try.func3 (by kernel_rfl)
    (of_decide_eq_true (by kernel_rfl)) (by unfold Func.isWrapper; rw [if_neg (of_decide_eq_false (by kernel_rfl))]; exact ⟨rfl, rfl⟩)
    (fun os started H enc _ => queueEmpties_lifted os started H enc)
#print axioms queueEmpties_holds
end Go.Proofs.Ytgeggiebefonhaa
