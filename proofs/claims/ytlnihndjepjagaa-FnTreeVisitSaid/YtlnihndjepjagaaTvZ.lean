/- Proved: who visits what an interval meets in a tree, and stops behind some of them, has seen the first ones. For every input; no condition is added. -/
import Derived.Test.YtlnihndjepjagaaRows
import Derived.Lib.SmallJoins
import Derived.Test.YtlnihndjepjagaaTv7
set_option linter.unusedVariables false
set_option linter.unusedSimpArgs false
namespace Go.Proofs.Ytlnihndjepjagaa
open Go Go.RowKit Go.ChangeShapes Go.WideShapes Go.ChangeAt Go.Joins Gw
theorem treeVisit_own : ownKnob Try.prog.godebug = none := by kernel_rfl
theorem treeVisit_laidOut : laidOutB Try.prog = true := by kernel_rfl
theorem treeVisit_i64 {a : Int} (h : (Lit.int .i64 a).wf = true) : -9223372036854775808 ≤ a ∧ a < 9223372036854775808 := by
  simp only [Lit.wf, IntKind.min, IntKind.max, IntKind.signed, IntKind.bits, Bool.and_eq_true, decide_eq_true_eq, if_true] at h
  omega
section
variable {H : Type} {enc : TypeId × Value → H} {w : World} {base : Nat} {spare : Nat → Bool} {held : Bool}
set_option maxRecDepth 100000 in
theorem open_SN {fuel : Nat} {xs : List Value} (h : ReadsF enc Try.prog w base spare held fuel 44 xs) : ∃ x : SN, xs = x.cells ∧ (x.in__Begin.size ≤ maxLen ∧ x.in__End.size ≤ maxLen ∧ (Lit.int .i64 x.from_).wf = true ∧ (Lit.int .i64 x.till).wf = true) := by
  obtain _ | fuel := fuel
  · exact h.zero.elim
  obtain ⟨hl0, hf0⟩ := inv_structF Try.underlying44 h
  have hl0 : xs.length = 5 := hl0.trans (by kernel_rfl)
  obtain ⟨c0, c1, c2, c3, c4, rfl⟩ : ∃ c0 c1 c2 c3 c4, xs = [c0, c1, c2, c3, c4] := by
    match xs, hl0 with
    | [c0, c1, c2, c3, c4], _ => exact ⟨c0, c1, c2, c3, c4, rfl⟩
  have hs0_0 := hf0 0 _ rfl
  replace hs0_0 : ReadsF enc Try.prog w base spare held fuel 42 [c0, c1, c2] := hs0_0
  obtain ⟨a3, rfl, w3⟩ := inv_int Try.underlying2 (fld1F hf0 1 rfl (by kernel_rfl) (c := c3) rfl).reads
  obtain ⟨a4, rfl, w4⟩ := inv_int Try.underlying2 (fld1F hf0 2 rfl (by kernel_rfl) (c := c4) rfl).reads
  obtain _ | fuel := fuel
  · exact hs0_0.zero.elim
  obtain ⟨hl1, hf1⟩ := inv_structF Try.underlying42 hs0_0
  obtain ⟨a0, rfl, w0⟩ := inv_string Try.underlying9 (fld1F hf1 0 rfl (by kernel_rfl) (c := c0) rfl).reads
  obtain ⟨a1, rfl, w1⟩ := inv_string Try.underlying9 (fld1F hf1 1 rfl (by kernel_rfl) (c := c1) rfl).reads
  obtain ⟨a2, rfl⟩ := inv_bool Try.underlying4 (fld1F hf1 2 rfl (by kernel_rfl) (c := c2) rfl).reads
  exact ⟨⟨a0, a1, a2, a3, a4⟩, rfl, ⟨w0, w1, w3, w4⟩⟩
end
set_option maxRecDepth 100000 in
theorem treeVisit_lifted (os : Os) (started : os.Started) (H : Type) (enc : TypeId × Value → H) :
    ReturnsInHanded {} Try.checked os 9 .any (Rows.fnTreeVisitSpec.pre6 enc Try.prog Try.f9 [] false) (Rows.fnTreeVisitSpec.post enc Try.prog Try.f9 false true false false) := by
  refine law_lift (C := Try.checked) (tb := 4) treeVisit_own started (by kernel_rfl) Try.func9
    (ChangeSpec.witness6 (enc := enc) (C := Try.checked) false ⟨#[], #[(Value.int .i64 0), (Value.slice none 0 0), (Value.agg #[(Value.string ByteArray.empty), (Value.string ByteArray.empty), (Value.bool false), (Value.int .i64 0), (Value.int .i64 0)]), (Value.int .i64 0)], []⟩ 8 (by kernel_rfl) (by kernel_rfl) (by kernel_rfl) (by kernel_rfl))
    treeVisit_laidOut (by kernel_rfl) rfl rfl Try.underlying4 ?_ ?_
  · intro ds hd
    match ds, hd with
    | [d0, d1, d2, d3], _ => rfl
  · intro W base args ds before hval0 hA0 hsz
    have hval : ∀ (j : Nat) t v, Try.f9.params[j]? = some t → args[j]? = some v → Value.okWide Try.prog W .any base t v := hval0
    have hA : DataW.TrodAll enc Try.prog W 0 (fun _ => true) true Try.f9.params.toList args.toList ds before := hA0
    rw [Try.params9] at hA hval
    obtain ⟨v0, vs0, e0, ds0, p0, q0, hargs, rfl, rfl, h0, r0⟩ := trodAll_cons hA
    obtain ⟨v1, vs1, e1, ds1, p1, q1, rfl, rfl, rfl, h1, r1⟩ := trodAll_cons r0
    obtain ⟨v2, vs2, e2, ds2, p2, q2, rfl, rfl, rfl, h2, r2⟩ := trodAll_cons r1
    obtain ⟨v3, vs3, e3, ds3, p3, q3, rfl, rfl, rfl, h3, r3⟩ := trodAll_cons r2
    obtain ⟨rfl, rfl, rfl⟩ := trodAll_nil r3
    obtain rfl : args = #[v0, v1, v2, v3] := by apply Array.ext'; simpa using hargs
    obtain ⟨a0, rfl, rfl, rfl, wf0⟩ := open_int Try.underlying3 (hval 0 3 v0 rfl rfl) h0
    have b0 := treeVisit_i64 wf0
    have rd1 := reads_of_trod h1
    obtain ⟨sa1, sn1, sc1, rfl⟩ := okWide_slice Try.underlying30 (hval 1 30 v1 rfl rfl)
    obtain ⟨cs2, rfl, hc2⟩ := okWide_struct Try.underlying44 (hval 2 44 v2 rfl rfl)
    obtain ⟨hl2, hf2⟩ := inv_struct Try.underlying44 (reads_of_trod h2)
    have hn2 : cs2.size = 5 := hc2.trans (by kernel_rfl)
    obtain ⟨c2_0, c2_1, c2_2, c2_3, c2_4, rfl⟩ : ∃ c2_0 c2_1 c2_2 c2_3 c2_4, cs2 = #[c2_0, c2_1, c2_2, c2_3, c2_4] := by
      obtain ⟨l⟩ := cs2
      match l, hn2 with
      | [c2_0, c2_1, c2_2, c2_3, c2_4], _ => exact ⟨c2_0, c2_1, c2_2, c2_3, c2_4, rfl⟩
    have hs2_0 := hf2 0 _ rfl
    have hs2_0 : Reads enc Try.prog W 0 (fun _ => true) true 42 [c2_0, c2_1, c2_2] := hs2_0
    obtain ⟨hl2_0, hf2_0⟩ := inv_struct Try.underlying42 hs2_0
    obtain ⟨a2_0, rfl, sz2_0⟩ := inv_string Try.underlying9 (fld1 hf2_0 0 rfl (by kernel_rfl) (c := c2_0) rfl)
    obtain ⟨a2_1, rfl, sz2_1⟩ := inv_string Try.underlying9 (fld1 hf2_0 1 rfl (by kernel_rfl) (c := c2_1) rfl)
    obtain ⟨a2_2, rfl⟩ := inv_bool Try.underlying4 (fld1 hf2_0 2 rfl (by kernel_rfl) (c := c2_2) rfl)
    obtain ⟨a2_3, rfl, wf2_3⟩ := inv_int Try.underlying2 (fld1 hf2 1 rfl (by kernel_rfl) (c := c2_3) rfl)
    have b2_3 := treeVisit_i64 wf2_3
    obtain ⟨a2_4, rfl, wf2_4⟩ := inv_int Try.underlying2 (fld1 hf2 2 rfl (by kernel_rfl) (c := c2_4) rfl)
    have b2_4 := treeVisit_i64 wf2_4
    obtain ⟨a3, rfl, rfl, rfl, wf3⟩ := open_int Try.underlying3 (hval 3 3 v3 rfl rfl) h3
    have b3 := treeVisit_i64 wf3
    obtain ⟨fuel1, hr1⟩ := Reads.some_ rd1
    obtain _ | fuel1 := fuel1
    · exact hr1.zero.elim
    obtain ⟨q1, n1, k1, l1, e1, r1, p1, -⟩ := open_list (n := 5) SN.cells _ (by kernel_rfl) (by decide) SN.len Try.underlying30 (fun xs hx => open_SN hx) hr1
    exact law_calls ((fnTreeVisit (hp W) _ _ l1 ⟨a2_0, a2_1, a2_2, a2_3, a2_4⟩ _ r1).mono fun v post h => h.1)
theorem treeVisit_holds : Rows.FnTreeVisitSaid :=
  OpenClaim.holds_of_wide 9 Try.f9 rfl rfl rfl rfl rfl rfl rfl ⟨rfl, rfl, rfl, rfl, rfl⟩ rfl rfl rfl rfl rfl (by kernel_rfl) Try.func9 (by kernel_rfl)
    (of_decide_eq_true (by kernel_rfl)) (by unfold Func.isWrapper; rw [if_neg (of_decide_eq_false (by kernel_rfl))]; exact ⟨rfl, rfl⟩)
    (fun os started H enc _ => treeVisit_lifted os started H enc)
#print axioms treeVisit_holds
end Go.Proofs.Ytlnihndjepjagaa
