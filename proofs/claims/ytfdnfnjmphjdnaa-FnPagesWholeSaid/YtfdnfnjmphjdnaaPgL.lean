/- Proved: what the writer below is handed by a write ends where a page ends, call by call; only a flush may hand it a part of one. For every input; no condition is added. -/
import Derived.Test.YtfdnfnjmphjdnaaRows
import Derived.Test.YtfdnfnjmphjdnaaGwL
import Derived.Test.YtfdnfnjmphjdnaaPgI0
import Derived.Test.YtfdnfnjmphjdnaaGwN
import Derived.Lib.SmallJoins
set_option linter.unusedVariables false
set_option linter.unusedSimpArgs false
namespace Go.Proofs.Ytfdnfnjmphjdnaa
open Go Go.RowKit Go.ChangeShapes Go.WideShapes Go.ChangeAt Go.Joins Gw
theorem pagesWhole_own : ownKnob Try.prog.godebug = none := by kernel_rfl
theorem pagesWhole_laidOut : laidOutB Try.prog = true := by kernel_rfl
theorem pagesWhole_i64 {a : Int} (h : (Lit.int .i64 a).wf = true) : -9223372036854775808 ≤ a ∧ a < 9223372036854775808 := by
  simp only [Lit.wf, IntKind.min, IntKind.max, IntKind.signed, IntKind.bits, Bool.and_eq_true, decide_eq_true_eq, if_true] at h
  omega
section
variable {H : Type} {enc : TypeId × Value → H} {w : World} {base : Nat} {spare : Nat → Bool} {held : Bool}
set_option maxRecDepth 100000 in
theorem op_open {fuel : Nat} {xs : List Value} (h : ReadsF enc Try.prog w base spare held fuel 59 xs) : ∃ x : OpS, xs = x.cells ∧ True := by
  obtain _ | fuel := fuel
  · exact h.zero.elim
  obtain ⟨hl, hf⟩ := inv_structF Try.underlying59 h
  have hl : xs.length = 2 := hl.trans (by kernel_rfl)
  obtain ⟨c0, c1, rfl⟩ : ∃ c0 c1, xs = [c0, c1] := by
    match xs, hl with
    | [c0, c1], _ => exact ⟨c0, c1, rfl⟩
  obtain ⟨a0, rfl, -⟩ := inv_string Try.underlying9 (fld1F hf 0 rfl (by kernel_rfl) (c := c0) rfl).reads
  obtain ⟨a1, rfl⟩ := inv_bool Try.underlying4 (fld1F hf 1 rfl (by kernel_rfl) (c := c1) rfl).reads
  exact ⟨⟨a0, a1⟩, rfl, trivial⟩
end
set_option maxRecDepth 100000 in
theorem pagesWhole_lifted (os : Os) (started : os.Started) (H : Type) (enc : TypeId × Value → H) :
    ReturnsInHanded {} Try.checked os 7 .any (Rows.fnPagesWholeSpec.pre6 enc Try.prog Try.f7 [] false) (Rows.fnPagesWholeSpec.post enc Try.prog Try.f7 false true false false) := by
  refine law_lift (C := Try.checked) (tb := 4) pagesWhole_own started (by kernel_rfl) Try.func7
    (ChangeSpec.witness6 (enc := enc) (C := Try.checked) false ⟨#[], #[(Value.int .i64 0), (Value.int .i64 0), (Value.int .i64 0), (Value.slice none 0 0)], []⟩ 8 (by kernel_rfl) (by kernel_rfl) (by kernel_rfl) (by kernel_rfl))
    pagesWhole_laidOut (by kernel_rfl) rfl rfl Try.underlying4 ?_ ?_
  · intro ds hd
    match ds, hd with
    | [d0, d1, d2, d3], _ => rfl
  · intro W base args ds before hval0 hA0 hsz
    have hval : ∀ (j : Nat) t v, Try.f7.params[j]? = some t → args[j]? = some v → Value.okWide Try.prog W .any base t v := hval0
    have hA : DataW.TrodAll enc Try.prog W 0 (fun _ => true) true Try.f7.params.toList args.toList ds before := hA0
    rw [Try.params7] at hA hval
    obtain ⟨v0, vs0, e0, ds0, p0, q0, hargs, rfl, rfl, h0, r0⟩ := trodAll_cons hA
    obtain ⟨v1, vs1, e1, ds1, p1, q1, rfl, rfl, rfl, h1, r1⟩ := trodAll_cons r0
    obtain ⟨v2, vs2, e2, ds2, p2, q2, rfl, rfl, rfl, h2, r2⟩ := trodAll_cons r1
    obtain ⟨v3, vs3, e3, ds3, p3, q3, rfl, rfl, rfl, h3, r3⟩ := trodAll_cons r2
    obtain ⟨rfl, rfl, rfl⟩ := trodAll_nil r3
    obtain rfl : args = #[v0, v1, v2, v3] := by apply Array.ext'; simpa using hargs
    obtain ⟨a0, rfl, rfl, rfl, wf0⟩ := open_int Try.underlying3 (hval 0 3 v0 rfl rfl) h0
    have b0 := pagesWhole_i64 wf0
    obtain ⟨a1, rfl, rfl, rfl, wf1⟩ := open_int Try.underlying3 (hval 1 3 v1 rfl rfl) h1
    have b1 := pagesWhole_i64 wf1
    obtain ⟨a2, rfl, rfl, rfl, wf2⟩ := open_int Try.underlying3 (hval 2 3 v2 rfl rfl) h2
    have b2 := pagesWhole_i64 wf2
    have rd3 := reads_of_trod h3
    obtain ⟨sa3, sn3, sc3, rfl⟩ := okWide_slice Try.underlying50 (hval 3 50 v3 rfl rfl)
    obtain ⟨fuel, hr⟩ := Reads.some_ rd3
    obtain _ | fuel := fuel
    · exact hr.zero.elim
    obtain ⟨p3, n3, k3, l3, e3, r3, -, -⟩ := open_list (n := 2) OpS.cells (fun _ => True) (by kernel_rfl) (by decide) OpS.len Try.underlying50 (fun xs hx => op_open hx) hr
    exact law_calls ((fnPagesWhole (hp W) a0 a1 a2 _ l3 r3).mono fun v post h => h.1)
theorem pagesWhole_holds : Rows.FnPagesWholeSaid :=
  OpenClaim.holds_of_wide 7 Try.f7 rfl rfl rfl rfl rfl rfl rfl ⟨rfl, rfl, rfl, rfl, rfl⟩ rfl rfl rfl rfl rfl (by kernel_rfl) Try.func7 (by kernel_rfl)
    (of_decide_eq_true (by kernel_rfl)) (by unfold Func.isWrapper; rw [if_neg (of_decide_eq_false (by kernel_rfl))]; exact ⟨rfl, rfl⟩)
    (fun os started H enc _ => pagesWhole_lifted os started H enc)
#print axioms pagesWhole_holds
end Go.Proofs.Ytfdnfnjmphjdnaa
