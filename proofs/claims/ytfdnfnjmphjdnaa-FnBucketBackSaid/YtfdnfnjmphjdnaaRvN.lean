/- Proved: a bucket's key that is written, into bytes with room for a mark or without, is read back with its mark; the bytes begin with the revision's; the mark is seen; a marked one has one byte more, and is written the same in both ways; and one without room and mark is the revision's bytes. For every input; no condition is added. -/
import Derived.Test.YtfdnfnjmphjdnaaRows
import Derived.Test.YtfdnfnjmphjdnaaGwH
import Derived.Test.YtfdnfnjmphjdnaaRvD
import Derived.Lib.SmallJoins
namespace Go.Proofs.Ytfdnfnjmphjdnaa
open Go Go.RowKit Go.ChangeShapes Go.WideShapes Go.ChangeAt Go.Joins Gw
theorem TryB.own : ownKnob Try.prog.godebug = none := by kernel_rfl
theorem TryB.laidOut : laidOutB Try.prog = true := by kernel_rfl
theorem TryB.cells23 : Try.prog.cellsOf 23 = 2 := by kernel_rfl
theorem i64_bounds {a : Int} (h : (Lit.int .i64 a).wf = true) : -9223372036854775808 ≤ a ∧ a < 9223372036854775808 := by
  simp only [Lit.wf, IntKind.min, IntKind.max, IntKind.signed, IntKind.bits, Bool.and_eq_true, decide_eq_true_eq, if_true] at h
  omega
set_option maxRecDepth 100000 in
theorem bucketBack_lifted (os : Os) (started : os.Started) (H : Type) (enc : TypeId × Value → H) :
    ReturnsInHanded {} Try.checked os 6 .any (Rows.fnBucketBackSpec.pre6 enc Try.prog Try.f6 [] false) (Rows.fnBucketBackSpec.post enc Try.prog Try.f6 false true false false) := by
  refine law_lift (C := Try.checked) (tb := 4) TryB.own started (by kernel_rfl) Try.func6
    (ChangeSpec.witness6 (enc := enc) (C := Try.checked) false ⟨#[], #[.agg #[.int .i64 0, .int .i64 0], .bool false], []⟩ 8 (by kernel_rfl) (by kernel_rfl) (by kernel_rfl) (by kernel_rfl))
    TryB.laidOut (by kernel_rfl) rfl rfl Try.underlying4 ?_ ?_
  · intro ds hd
    match ds, hd with
    | [d1, d2], _ => rfl
  · intro W base args ds before hval0 hA0 _
    have hval : ∀ (j : Nat) t v, Try.f6.params[j]? = some t → args[j]? = some v → Value.okWide Try.prog W .any base t v := hval0
    have hA : DataW.TrodAll enc Try.prog W 0 (fun _ => true) true Try.f6.params.toList args.toList ds before := hA0
    rw [Try.params6] at hA hval
    obtain ⟨v0, v1, d0, d1, p0, p1, rfl, rfl, rfl, h0, h1⟩ := trodAll_two hA
    obtain ⟨c0, c1, y0, y1, mm, rfl, rfl, rfl, hy0, hy1⟩ := open_agg2 Try.underlying23 (by kernel_rfl) TryB.cells23 (hval 0 23 v0 rfl rfl) h0
    obtain ⟨a, e0, rfl, wa⟩ := DataW.trod_int Try.underlying2 hy0
    obtain ⟨b, e1, rfl, wb⟩ := DataW.trod_int Try.underlying2 hy1
    obtain ⟨t, rfl, rfl, rfl⟩ := open_bool Try.underlying4 (hval 1 4 v1 rfl rfl) h1
    simp at e0 e1
    subst e0 e1
    have ba := i64_bounds wa
    have bb := i64_bounds wb
    by_cases hn : min a b < 0
    · exact law_calls ((bucketBackNeg (hp W) a b t hn).mono fun v post h => h.1)
    · cases t
      · exact law_calls ((bucketBackf (hp W) a b (by omega) (by omega) (by omega) (by omega)).mono fun v post h => h.1)
      · exact law_calls ((bucketBackt (hp W) a b (by omega) (by omega) (by omega) (by omega)).mono fun v post h => h.1)
theorem bucketBack_holds : Rows.FnBucketBackSaid :=
  OpenClaim.holds_of_wide 6 Try.f6 rfl rfl rfl rfl rfl rfl rfl ⟨rfl, rfl, rfl, rfl, rfl⟩ rfl rfl rfl rfl rfl (by kernel_rfl) Try.func6 (by kernel_rfl)
    (of_decide_eq_true (by kernel_rfl)) (by unfold Func.isWrapper; rw [if_neg (of_decide_eq_false (by kernel_rfl))]; exact ⟨rfl, rfl⟩)
    (fun os started H enc _ => bucketBack_lifted os started H enc)
#print axioms bucketBack_holds
end Go.Proofs.Ytfdnfnjmphjdnaa
