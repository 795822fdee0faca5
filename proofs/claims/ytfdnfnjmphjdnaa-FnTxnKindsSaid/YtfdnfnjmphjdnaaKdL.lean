/- Proved: for all transactions, one is read-only just if all operations of both branches are ranges, and serializable just if all of them are serializable ranges. For every input; no condition is added. -/
import Derived.Test.YtfdnfnjmphjdnaaRows
import Derived.Test.YtfdnfnjmphjdnaaGwL
import Derived.Test.YtfdnfnjmphjdnaaKdE0
import Derived.Test.YtfdnfnjmphjdnaaGwN
import Derived.Lib.SmallJoins
set_option linter.unusedVariables false
set_option linter.unusedSimpArgs false
namespace Go.Proofs.Ytfdnfnjmphjdnaa
open Go Go.RowKit Go.ChangeShapes Go.WideShapes Go.ChangeAt Go.Joins Gw
theorem txnKinds_own : ownKnob Try.prog.godebug = none := by kernel_rfl
theorem txnKinds_laidOut : laidOutB Try.prog = true := by kernel_rfl
theorem txnKinds_i64 {a : Int} (h : (Lit.int .i64 a).wf = true) : -9223372036854775808 ≤ a ∧ a < 9223372036854775808 := by
  simp only [Lit.wf, IntKind.min, IntKind.max, IntKind.signed, IntKind.bits, Bool.and_eq_true, decide_eq_true_eq, if_true] at h
  omega
section
variable {H : Type} {enc : TypeId × Value → H} {w : World} {base : Nat} {spare : Nat → Bool} {held : Bool}
set_option maxRecDepth 100000 in
theorem cmp_open {fuel : Nat} {xs : List Value} (h : ReadsF enc Try.prog w base spare held fuel 31 xs) : ∃ x : CmpS, xs = x.cells ∧ True := by
  obtain _ | fuel := fuel
  · exact h.zero.elim
  obtain ⟨hl, hf⟩ := inv_structF Try.underlying31 h
  have hl : xs.length = 7 := hl.trans (by kernel_rfl)
  obtain ⟨c0, c1, c2, c3, c4, c5, c6, rfl⟩ : ∃ c0 c1 c2 c3 c4 c5 c6, xs = [c0, c1, c2, c3, c4, c5, c6] := by
    match xs, hl with
    | [c0, c1, c2, c3, c4, c5, c6], _ => exact ⟨c0, c1, c2, c3, c4, c5, c6, rfl⟩
  obtain ⟨a0, rfl, -⟩ := inv_int Try.underlying3 (fld1F hf 0 rfl (by kernel_rfl) (c := c0) rfl).reads
  obtain ⟨a1, rfl, -⟩ := inv_int Try.underlying3 (fld1F hf 1 rfl (by kernel_rfl) (c := c1) rfl).reads
  obtain ⟨a2, rfl, -⟩ := inv_string Try.underlying9 (fld1F hf 2 rfl (by kernel_rfl) (c := c2) rfl).reads
  obtain ⟨a3, rfl, -⟩ := inv_string Try.underlying9 (fld1F hf 3 rfl (by kernel_rfl) (c := c3) rfl).reads
  obtain ⟨a4, rfl, -⟩ := inv_int Try.underlying2 (fld1F hf 4 rfl (by kernel_rfl) (c := c4) rfl).reads
  obtain ⟨a5, rfl, -⟩ := inv_string Try.underlying9 (fld1F hf 5 rfl (by kernel_rfl) (c := c5) rfl).reads
  obtain ⟨a6, rfl⟩ := inv_bool Try.underlying4 (fld1F hf 6 rfl (by kernel_rfl) (c := c6) rfl).reads
  exact ⟨⟨a0, a1, a2, a3, a4, a5, a6⟩, rfl, trivial⟩
set_option maxRecDepth 100000 in
theorem req_open : ∀ (fuel : Nat) {xs : List Value}, ReadsF enc Try.prog w base spare held fuel 40 xs → ∃ q : ReqS, xs = q.cells ∧ ReqT (hp w) q := by
  intro fuel
  induction fuel using Nat.strongRecOn with
  | ind fuel ih =>
  intro xs h
  obtain _ | fuel := fuel
  · exact h.zero.elim
  obtain ⟨hl, hf⟩ := inv_structF Try.underlying40 h
  have hl : xs.length = 21 := hl.trans (by kernel_rfl)
  obtain ⟨c0, c1, c2, c3, c4, c5, c6, c7, c8, c9, c10, c11, c12, c13, c14, c15, c16, c17, c18, c19, c20, rfl⟩ : ∃ c0 c1 c2 c3 c4 c5 c6 c7 c8 c9 c10 c11 c12 c13 c14 c15 c16 c17 c18 c19 c20, xs = [c0, c1, c2, c3, c4, c5, c6, c7, c8, c9, c10, c11, c12, c13, c14, c15, c16, c17, c18, c19, c20] := by
    match xs, hl with
    | [c0, c1, c2, c3, c4, c5, c6, c7, c8, c9, c10, c11, c12, c13, c14, c15, c16, c17, c18, c19, c20], _ => exact ⟨c0, c1, c2, c3, c4, c5, c6, c7, c8, c9, c10, c11, c12, c13, c14, c15, c16, c17, c18, c19, c20, rfl⟩
  obtain ⟨a0, rfl, -⟩ := inv_int Try.underlying3 (fld1F hf 0 rfl (by kernel_rfl) (c := c0) rfl).reads
  obtain ⟨a1, rfl, -⟩ := inv_string Try.underlying9 (fld1F hf 1 rfl (by kernel_rfl) (c := c1) rfl).reads
  obtain ⟨a2, rfl, -⟩ := inv_string Try.underlying9 (fld1F hf 2 rfl (by kernel_rfl) (c := c2) rfl).reads
  obtain ⟨a3, rfl, -⟩ := inv_string Try.underlying9 (fld1F hf 3 rfl (by kernel_rfl) (c := c3) rfl).reads
  obtain ⟨a4, rfl, -⟩ := inv_int Try.underlying2 (fld1F hf 4 rfl (by kernel_rfl) (c := c4) rfl).reads
  obtain ⟨a5, rfl, -⟩ := inv_int Try.underlying2 (fld1F hf 5 rfl (by kernel_rfl) (c := c5) rfl).reads
  obtain ⟨a6, rfl, -⟩ := inv_int Try.underlying2 (fld1F hf 6 rfl (by kernel_rfl) (c := c6) rfl).reads
  obtain ⟨a7, rfl, -⟩ := inv_int Try.underlying3 (fld1F hf 7 rfl (by kernel_rfl) (c := c7) rfl).reads
  obtain ⟨a8, rfl, -⟩ := inv_int Try.underlying3 (fld1F hf 8 rfl (by kernel_rfl) (c := c8) rfl).reads
  obtain ⟨a9, rfl, -⟩ := inv_int Try.underlying2 (fld1F hf 9 rfl (by kernel_rfl) (c := c9) rfl).reads
  obtain ⟨a10, rfl, -⟩ := inv_int Try.underlying2 (fld1F hf 10 rfl (by kernel_rfl) (c := c10) rfl).reads
  obtain ⟨a11, rfl, -⟩ := inv_int Try.underlying2 (fld1F hf 11 rfl (by kernel_rfl) (c := c11) rfl).reads
  obtain ⟨a12, rfl, -⟩ := inv_int Try.underlying2 (fld1F hf 12 rfl (by kernel_rfl) (c := c12) rfl).reads
  obtain ⟨a13, rfl⟩ := inv_bool Try.underlying4 (fld1F hf 13 rfl (by kernel_rfl) (c := c13) rfl).reads
  obtain ⟨a14, rfl⟩ := inv_bool Try.underlying4 (fld1F hf 14 rfl (by kernel_rfl) (c := c14) rfl).reads
  obtain ⟨a15, rfl⟩ := inv_bool Try.underlying4 (fld1F hf 15 rfl (by kernel_rfl) (c := c15) rfl).reads
  obtain ⟨a16, rfl⟩ := inv_bool Try.underlying4 (fld1F hf 16 rfl (by kernel_rfl) (c := c16) rfl).reads
  obtain ⟨a17, rfl⟩ := inv_bool Try.underlying4 (fld1F hf 17 rfl (by kernel_rfl) (c := c17) rfl).reads
  have h18 := fld1F hf 18 rfl (by kernel_rfl) (c := c18) rfl
  have h19 := fld1F hf 19 rfl (by kernel_rfl) (c := c19) rfl
  have h20 := fld1F hf 20 rfl (by kernel_rfl) (c := c20) rfl
  obtain _ | fuel := fuel
  · exact h18.zero.elim
  obtain ⟨p18, n18, k18, l18, rfl, r18, g18, -⟩ := open_list (n := 7) CmpS.cells (fun _ => True) (by kernel_rfl) (by decide) CmpS.len Try.underlying37 (fun xs hx => cmp_open hx) h18
  obtain ⟨p19, n19, k19, l19, rfl, r19, g19, -⟩ := open_list (n := 21) ReqS.cells (ReqT (hp w)) (by kernel_rfl) (by decide) ReqS.len Try.underlying38 (fun xs hx => ih fuel (by omega) hx) h19
  obtain ⟨p20, n20, k20, l20, rfl, r20, g20, -⟩ := open_list (n := 21) ReqS.cells (ReqT (hp w)) (by kernel_rfl) (by decide) ReqS.len Try.underlying38 (fun xs hx => ih fuel (by omega) hx) h20
  exact ⟨⟨a0, a1, a2, a3, a4, a5, a6, a7, a8, a9, a10, a11, a12, a13, a14, a15, a16, a17, p18, n18, k18, p19, n19, k19, p20, n20, k20⟩, rfl, .mk _ l18 l19 l20 ⟨r18, r19, r20⟩ g19 g20⟩
end
set_option maxRecDepth 100000 in
theorem txnKinds_lifted (os : Os) (started : os.Started) (H : Type) (enc : TypeId × Value → H) :
    ReturnsInHanded {} Try.checked os 5 .any (Rows.fnTxnKindsSpec.pre6 enc Try.prog Try.f5 [] false) (Rows.fnTxnKindsSpec.post enc Try.prog Try.f5 false true false false) := by
  refine law_lift (C := Try.checked) (tb := 4) txnKinds_own started (by kernel_rfl) Try.func5
    (ChangeSpec.witness6 (enc := enc) (C := Try.checked) false ⟨#[], #[(Value.agg #[(Value.int .i64 0), (Value.string ByteArray.empty), (Value.string ByteArray.empty), (Value.string ByteArray.empty), (Value.int .i64 0), (Value.int .i64 0), (Value.int .i64 0), (Value.int .i64 0), (Value.int .i64 0), (Value.int .i64 0), (Value.int .i64 0), (Value.int .i64 0), (Value.int .i64 0), (Value.bool false), (Value.bool false), (Value.bool false), (Value.bool false), (Value.bool false), (Value.slice none 0 0), (Value.slice none 0 0), (Value.slice none 0 0)])], []⟩ 8 (by kernel_rfl) (by kernel_rfl) (by kernel_rfl) (by kernel_rfl))
    txnKinds_laidOut (by kernel_rfl) rfl rfl Try.underlying4 ?_ ?_
  · intro ds hd
    match ds, hd with
    | [d0], _ => rfl
  · intro W base args ds before hval0 hA0 hsz
    have hval : ∀ (j : Nat) t v, Try.f5.params[j]? = some t → args[j]? = some v → Value.okWide Try.prog W .any base t v := hval0
    have hA : DataW.TrodAll enc Try.prog W 0 (fun _ => true) true Try.f5.params.toList args.toList ds before := hA0
    rw [Try.params5] at hA hval
    obtain ⟨v0, d0, rfl, rfl, h0⟩ := trodAll_one hA
    obtain ⟨cs0, rfl, hc0⟩ := okWide_struct Try.underlying40 (hval 0 40 v0 rfl rfl)
    obtain ⟨fuel, hr⟩ := Reads.some_ (reads_of_trod h0)
    obtain ⟨q, hq, hT⟩ := req_open fuel hr
    obtain rfl : cs0 = q.cells.toArray := by apply Array.ext'; have hq' : cs0.toList = q.cells := hq; simpa using hq'
    cases hT with
    | mk q cc tt ee hL ht he => exact law_calls ((fnTxnKinds (hp W) q cc tt ee hL ht he).mono fun v post h => h.1)
theorem txnKinds_holds : Rows.FnTxnKindsSaid :=
  OpenClaim.holds_of_wide 5 Try.f5 rfl rfl rfl rfl rfl rfl rfl ⟨rfl, rfl, rfl, rfl, rfl⟩ rfl rfl rfl rfl rfl (by kernel_rfl) Try.func5 (by kernel_rfl)
    (of_decide_eq_true (by kernel_rfl)) (by unfold Func.isWrapper; rw [if_neg (of_decide_eq_false (by kernel_rfl))]; exact ⟨rfl, rfl⟩)
    (fun os started H enc _ => txnKinds_lifted os started H enc)
#print axioms txnKinds_holds
end Go.Proofs.Ytfdnfnjmphjdnaa
