/- Proved: for all compares and key-values, a key-value fulfils a compare just if the number, or the text, that it speaks of is equal, greater, less, or not equal, by bytes. For every input; no condition is added. -/
import Derived.Test.YtfdnfnjmphjdnaaRows
import Derived.Test.YtfdnfnjmphjdnaaGwL
import Derived.Test.YtfdnfnjmphjdnaaTxC0
import Derived.Lib.SmallJoins
set_option linter.unusedVariables false
set_option linter.unusedSimpArgs false
namespace Go.Proofs.Ytfdnfnjmphjdnaa
open Go Go.RowKit Go.ChangeShapes Go.WideShapes Go.ChangeAt Go.Joins Gw
theorem txnCompare_own : ownKnob Try.prog.godebug = none := by kernel_rfl
theorem txnCompare_laidOut : laidOutB Try.prog = true := by kernel_rfl
theorem txnCompare_i64 {a : Int} (h : (Lit.int .i64 a).wf = true) : -9223372036854775808 ≤ a ∧ a < 9223372036854775808 := by
  simp only [Lit.wf, IntKind.min, IntKind.max, IntKind.signed, IntKind.bits, Bool.and_eq_true, decide_eq_true_eq, if_true] at h
  omega
set_option maxRecDepth 100000 in
theorem txnCompare_lifted (os : Os) (started : os.Started) (H : Type) (enc : TypeId × Value → H) :
    ReturnsInHanded {} Try.checked os 4 .any (Rows.fnTxnCompareSpec.pre6 enc Try.prog Try.f4 [] false) (Rows.fnTxnCompareSpec.post enc Try.prog Try.f4 false true false false) := by
  refine law_lift (C := Try.checked) (tb := 4) txnCompare_own started (by kernel_rfl) Try.func4
    (ChangeSpec.witness6 (enc := enc) (C := Try.checked) false ⟨#[], #[(Value.agg #[(Value.int .i64 0), (Value.int .i64 0), (Value.string ByteArray.empty), (Value.string ByteArray.empty), (Value.int .i64 0), (Value.string ByteArray.empty), (Value.bool false)]), (Value.agg #[(Value.string ByteArray.empty), (Value.string ByteArray.empty), (Value.int .i64 0), (Value.int .i64 0), (Value.int .i64 0), (Value.int .i64 0)])], []⟩ 8 (by kernel_rfl) (by kernel_rfl) (by kernel_rfl) (by kernel_rfl))
    txnCompare_laidOut (by kernel_rfl) rfl rfl Try.underlying4 ?_ ?_
  · intro ds hd
    match ds, hd with
    | [d0, d1], _ => rfl
  · intro W base args ds before hval0 hA0 hsz
    have hval : ∀ (j : Nat) t v, Try.f4.params[j]? = some t → args[j]? = some v → Value.okWide Try.prog W .any base t v := hval0
    have hA : DataW.TrodAll enc Try.prog W 0 (fun _ => true) true Try.f4.params.toList args.toList ds before := hA0
    rw [Try.params4] at hA hval
    obtain ⟨v0, vs0, e0, ds0, p0, q0, hargs, rfl, rfl, h0, r0⟩ := trodAll_cons hA
    obtain ⟨v1, vs1, e1, ds1, p1, q1, rfl, rfl, rfl, h1, r1⟩ := trodAll_cons r0
    obtain ⟨rfl, rfl, rfl⟩ := trodAll_nil r1
    obtain rfl : args = #[v0, v1] := by apply Array.ext'; simpa using hargs
    obtain ⟨cs0, rfl, hc0⟩ := okWide_struct Try.underlying31 (hval 0 31 v0 rfl rfl)
    obtain ⟨hl0, hf0⟩ := inv_struct Try.underlying31 (reads_of_trod h0)
    have hn0 : cs0.size = 7 := hc0.trans (by kernel_rfl)
    obtain ⟨c0_0, c0_1, c0_2, c0_3, c0_4, c0_5, c0_6, rfl⟩ : ∃ c0_0 c0_1 c0_2 c0_3 c0_4 c0_5 c0_6, cs0 = #[c0_0, c0_1, c0_2, c0_3, c0_4, c0_5, c0_6] := by
      obtain ⟨l⟩ := cs0
      match l, hn0 with
      | [c0_0, c0_1, c0_2, c0_3, c0_4, c0_5, c0_6], _ => exact ⟨c0_0, c0_1, c0_2, c0_3, c0_4, c0_5, c0_6, rfl⟩
    obtain ⟨a0_0, rfl, wf0_0⟩ := inv_int Try.underlying3 (fld1 hf0 0 rfl (by kernel_rfl) (c := c0_0) rfl)
    have b0_0 := txnCompare_i64 wf0_0
    obtain ⟨a0_1, rfl, wf0_1⟩ := inv_int Try.underlying3 (fld1 hf0 1 rfl (by kernel_rfl) (c := c0_1) rfl)
    have b0_1 := txnCompare_i64 wf0_1
    obtain ⟨a0_2, rfl, sz0_2⟩ := inv_string Try.underlying9 (fld1 hf0 2 rfl (by kernel_rfl) (c := c0_2) rfl)
    obtain ⟨a0_3, rfl, sz0_3⟩ := inv_string Try.underlying9 (fld1 hf0 3 rfl (by kernel_rfl) (c := c0_3) rfl)
    obtain ⟨a0_4, rfl, wf0_4⟩ := inv_int Try.underlying2 (fld1 hf0 4 rfl (by kernel_rfl) (c := c0_4) rfl)
    have b0_4 := txnCompare_i64 wf0_4
    obtain ⟨a0_5, rfl, sz0_5⟩ := inv_string Try.underlying9 (fld1 hf0 5 rfl (by kernel_rfl) (c := c0_5) rfl)
    obtain ⟨a0_6, rfl⟩ := inv_bool Try.underlying4 (fld1 hf0 6 rfl (by kernel_rfl) (c := c0_6) rfl)
    obtain ⟨cs1, rfl, hc1⟩ := okWide_struct Try.underlying33 (hval 1 33 v1 rfl rfl)
    obtain ⟨hl1, hf1⟩ := inv_struct Try.underlying33 (reads_of_trod h1)
    have hn1 : cs1.size = 6 := hc1.trans (by kernel_rfl)
    obtain ⟨c1_0, c1_1, c1_2, c1_3, c1_4, c1_5, rfl⟩ : ∃ c1_0 c1_1 c1_2 c1_3 c1_4 c1_5, cs1 = #[c1_0, c1_1, c1_2, c1_3, c1_4, c1_5] := by
      obtain ⟨l⟩ := cs1
      match l, hn1 with
      | [c1_0, c1_1, c1_2, c1_3, c1_4, c1_5], _ => exact ⟨c1_0, c1_1, c1_2, c1_3, c1_4, c1_5, rfl⟩
    obtain ⟨a1_0, rfl, sz1_0⟩ := inv_string Try.underlying9 (fld1 hf1 0 rfl (by kernel_rfl) (c := c1_0) rfl)
    obtain ⟨a1_1, rfl, sz1_1⟩ := inv_string Try.underlying9 (fld1 hf1 1 rfl (by kernel_rfl) (c := c1_1) rfl)
    obtain ⟨a1_2, rfl, wf1_2⟩ := inv_int Try.underlying2 (fld1 hf1 2 rfl (by kernel_rfl) (c := c1_2) rfl)
    have b1_2 := txnCompare_i64 wf1_2
    obtain ⟨a1_3, rfl, wf1_3⟩ := inv_int Try.underlying2 (fld1 hf1 3 rfl (by kernel_rfl) (c := c1_3) rfl)
    have b1_3 := txnCompare_i64 wf1_3
    obtain ⟨a1_4, rfl, wf1_4⟩ := inv_int Try.underlying2 (fld1 hf1 4 rfl (by kernel_rfl) (c := c1_4) rfl)
    have b1_4 := txnCompare_i64 wf1_4
    obtain ⟨a1_5, rfl, wf1_5⟩ := inv_int Try.underlying2 (fld1 hf1 5 rfl (by kernel_rfl) (c := c1_5) rfl)
    have b1_5 := txnCompare_i64 wf1_5
    exact law_calls ((fnTxnCompare (hp W) a0_0 a0_1 a0_2 a0_3 a0_4 a0_5 a0_6 a1_0 a1_1 a1_2 a1_3 a1_4 a1_5).mono fun v post h => h.1)
theorem txnCompare_holds : Rows.FnTxnCompareSaid :=
  OpenClaim.holds_of_wide 4 Try.f4 rfl rfl rfl rfl rfl rfl rfl ⟨rfl, rfl, rfl, rfl, rfl⟩ rfl rfl rfl rfl rfl (by kernel_rfl) Try.func4 (by kernel_rfl)
    (of_decide_eq_true (by kernel_rfl)) (by unfold Func.isWrapper; rw [if_neg (of_decide_eq_false (by kernel_rfl))]; exact ⟨rfl, rfl⟩)
    (fun os started H enc _ => txnCompare_lifted os started H enc)
#print axioms txnCompare_holds
end Go.Proofs.Ytfdnfnjmphjdnaa
