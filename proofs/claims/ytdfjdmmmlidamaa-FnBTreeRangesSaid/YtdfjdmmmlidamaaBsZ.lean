/- Proved: lists of a tree within keys are pieces of the list of all. For every input; no condition is added. -/
import Derived.Test.YtdfjdmmmlidamaaRows
import Derived.Lib.SmallJoins
import Derived.Test.YtdfjdmmmlidamaaBs5
set_option linter.unusedVariables false
set_option linter.unusedSimpArgs false
namespace Go.Proofs.Ytdfjdmmmlidamaa
open Go Go.RowKit Go.ChangeShapes Go.WideShapes Go.ChangeAt Go.Joins Gw
theorem bTreeRanges_own : ownKnob Try.prog.godebug = none := by kernel_rfl
theorem bTreeRanges_laidOut : laidOutB Try.prog = true := by kernel_rfl
theorem bTreeRanges_i64 {a : Int} (h : (Lit.int .i64 a).wf = true) : -9223372036854775808 ≤ a ∧ a < 9223372036854775808 := by
  simp only [Lit.wf, IntKind.min, IntKind.max, IntKind.signed, IntKind.bits, Bool.and_eq_true, decide_eq_true_eq, if_true] at h
  omega
section
variable {H : Type} {enc : TypeId × Value → H} {w : World} {base : Nat} {spare : Nat → Bool} {held : Bool}
set_option maxRecDepth 100000 in
theorem open_EL {fuel : Nat} {xs : List Value} (h : ReadsF enc Try.prog w base spare held fuel 24 xs) : ∃ x : EL, xs = x.cells ∧ ((Lit.int .i64 x.key).wf = true ∧ (Lit.int .i64 x.val).wf = true) := by
  obtain _ | fuel := fuel
  · exact h.zero.elim
  obtain ⟨hl0, hf0⟩ := inv_structF Try.underlying24 h
  have hl0 : xs.length = 2 := hl0.trans (by kernel_rfl)
  obtain ⟨c0, c1, rfl⟩ : ∃ c0 c1, xs = [c0, c1] := by
    match xs, hl0 with
    | [c0, c1], _ => exact ⟨c0, c1, rfl⟩
  obtain ⟨a0, rfl, w0⟩ := inv_int Try.underlying3 (fld1F hf0 0 rfl (by kernel_rfl) (c := c0) rfl).reads
  obtain ⟨a1, rfl, w1⟩ := inv_int Try.underlying3 (fld1F hf0 1 rfl (by kernel_rfl) (c := c1) rfl).reads
  exact ⟨⟨a0, a1⟩, rfl, ⟨w0, w1⟩⟩
end
set_option maxRecDepth 100000 in
theorem bTreeRanges_lifted (os : Os) (started : os.Started) (H : Type) (enc : TypeId × Value → H) :
    ReturnsInHanded {} Try.checked os 5 .any (Rows.fnBTreeRangesSpec.pre6 enc Try.prog Try.f5 [] false) (Rows.fnBTreeRangesSpec.post enc Try.prog Try.f5 false true false false) := by
  refine law_lift (C := Try.checked) (tb := 4) bTreeRanges_own started (by kernel_rfl) Try.func5
    (ChangeSpec.witness6 (enc := enc) (C := Try.checked) false ⟨#[], #[(Value.int .i64 0), (Value.slice none 0 0), (Value.int .i64 0), (Value.int .i64 0), (Value.int .i64 0)], []⟩ 8 (by kernel_rfl) (by kernel_rfl) (by kernel_rfl) (by kernel_rfl))
    bTreeRanges_laidOut (by kernel_rfl) rfl rfl Try.underlying4 ?_ ?_
  · intro ds hd
    match ds, hd with
    | [d0, d1, d2, d3, d4], _ => rfl
  · intro W base args ds before hval0 hA0 hsz
    have hval : ∀ (j : Nat) t v, Try.f5.params[j]? = some t → args[j]? = some v → Value.okWide Try.prog W .any base t v := hval0
    have hA : DataW.TrodAll enc Try.prog W 0 (fun _ => true) true Try.f5.params.toList args.toList ds before := hA0
    rw [Try.params5] at hA hval
    obtain ⟨v0, vs0, e0, ds0, p0, q0, hargs, rfl, rfl, h0, r0⟩ := trodAll_cons hA
    obtain ⟨v1, vs1, e1, ds1, p1, q1, rfl, rfl, rfl, h1, r1⟩ := trodAll_cons r0
    obtain ⟨v2, vs2, e2, ds2, p2, q2, rfl, rfl, rfl, h2, r2⟩ := trodAll_cons r1
    obtain ⟨v3, vs3, e3, ds3, p3, q3, rfl, rfl, rfl, h3, r3⟩ := trodAll_cons r2
    obtain ⟨v4, vs4, e4, ds4, p4, q4, rfl, rfl, rfl, h4, r4⟩ := trodAll_cons r3
    obtain ⟨rfl, rfl, rfl⟩ := trodAll_nil r4
    obtain rfl : args = #[v0, v1, v2, v3, v4] := by apply Array.ext'; simpa using hargs
    obtain ⟨a0, rfl, rfl, rfl, wf0⟩ := open_int Try.underlying3 (hval 0 3 v0 rfl rfl) h0
    have b0 := bTreeRanges_i64 wf0
    have rd1 := reads_of_trod h1
    obtain ⟨sa1, sn1, sc1, rfl⟩ := okWide_slice Try.underlying22 (hval 1 22 v1 rfl rfl)
    obtain ⟨a2, rfl, rfl, rfl, wf2⟩ := open_int Try.underlying3 (hval 2 3 v2 rfl rfl) h2
    have b2 := bTreeRanges_i64 wf2
    obtain ⟨a3, rfl, rfl, rfl, wf3⟩ := open_int Try.underlying3 (hval 3 3 v3 rfl rfl) h3
    have b3 := bTreeRanges_i64 wf3
    obtain ⟨a4, rfl, rfl, rfl, wf4⟩ := open_int Try.underlying3 (hval 4 3 v4 rfl rfl) h4
    have b4 := bTreeRanges_i64 wf4
    obtain ⟨fuel1, hr1⟩ := Reads.some_ rd1
    obtain _ | fuel1 := fuel1
    · exact hr1.zero.elim
    obtain ⟨q1, n1, k1, l1, e1, r1, p1, -⟩ := open_list (n := 2) EL.cells _ (by kernel_rfl) (by decide) EL.len Try.underlying22 (fun xs hx => open_EL hx) hr1
    exact law_calls ((fnBTreeRanges (hp W) a0 _ l1 a2 a3 a4 r1).mono fun v post h => h.1)
theorem bTreeRanges_holds : Rows.FnBTreeRangesSaid :=
  OpenClaim.holds_of_wide 5 Try.f5 rfl rfl rfl rfl rfl rfl rfl ⟨rfl, rfl, rfl, rfl, rfl⟩ rfl rfl rfl rfl rfl (by kernel_rfl) Try.func5 (by kernel_rfl)
    (of_decide_eq_true (by kernel_rfl)) (by unfold Func.isWrapper; rw [if_neg (of_decide_eq_false (by kernel_rfl))]; exact ⟨rfl, rfl⟩)
    (fun os started H enc _ => bTreeRanges_lifted os started H enc)
#print axioms bTreeRanges_holds
end Go.Proofs.Ytdfjdmmmlidamaa
