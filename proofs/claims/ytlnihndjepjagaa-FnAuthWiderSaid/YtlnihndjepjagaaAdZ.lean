/- Proved: for all permissions and one more, whatever is permitted without it is permitted with it; and the order of the permissions does not matter. For every input; no condition is added. -/
import Derived.Test.YtlnihndjepjagaaRows
import Derived.Lib.SmallJoins
import Derived.Test.YtlnihndjepjagaaAd7
set_option linter.unusedVariables false
set_option linter.unusedSimpArgs false
namespace Go.Proofs.Ytlnihndjepjagaa
open Go Go.RowKit Go.ChangeShapes Go.WideShapes Go.ChangeAt Go.Joins Gw
theorem authWider_own : ownKnob Try.prog.godebug = none := by kernel_rfl
theorem authWider_laidOut : laidOutB Try.prog = true := by kernel_rfl
theorem authWider_i64 {a : Int} (h : (Lit.int .i64 a).wf = true) : -9223372036854775808 ≤ a ∧ a < 9223372036854775808 := by
  simp only [Lit.wf, IntKind.min, IntKind.max, IntKind.signed, IntKind.bits, Bool.and_eq_true, decide_eq_true_eq, if_true] at h
  omega
section
variable {H : Type} {enc : TypeId × Value → H} {w : World} {base : Nat} {spare : Nat → Bool} {held : Bool}
set_option maxRecDepth 100000 in
theorem open_PM {fuel : Nat} {xs : List Value} (h : ReadsF enc Try.prog w base spare held fuel 51 xs) : ∃ x : PM, xs = x.cells ∧ ((Lit.int .i64 x.kind).wf = true ∧ x.key.size ≤ maxLen ∧ x.end_.size ≤ maxLen) := by
  obtain _ | fuel := fuel
  · exact h.zero.elim
  obtain ⟨hl0, hf0⟩ := inv_structF Try.underlying51 h
  have hl0 : xs.length = 3 := hl0.trans (by kernel_rfl)
  obtain ⟨c0, c1, c2, rfl⟩ : ∃ c0 c1 c2, xs = [c0, c1, c2] := by
    match xs, hl0 with
    | [c0, c1, c2], _ => exact ⟨c0, c1, c2, rfl⟩
  obtain ⟨a0, rfl, w0⟩ := inv_int Try.underlying3 (fld1F hf0 0 rfl (by kernel_rfl) (c := c0) rfl).reads
  obtain ⟨a1, rfl, w1⟩ := inv_string Try.underlying9 (fld1F hf0 1 rfl (by kernel_rfl) (c := c1) rfl).reads
  obtain ⟨a2, rfl, w2⟩ := inv_string Try.underlying9 (fld1F hf0 2 rfl (by kernel_rfl) (c := c2) rfl).reads
  exact ⟨⟨a0, a1, a2⟩, rfl, ⟨w0, w1, w2⟩⟩
end
set_option maxRecDepth 100000 in
theorem authWider_lifted (os : Os) (started : os.Started) (H : Type) (enc : TypeId × Value → H) :
    ReturnsInHanded {} Try.checked os 6 .any (Rows.fnAuthWiderSpec.pre6 enc Try.prog Try.f6 [] false) (Rows.fnAuthWiderSpec.post enc Try.prog Try.f6 false true false false) := by
  refine law_lift (C := Try.checked) (tb := 4) authWider_own started (by kernel_rfl) Try.func6
    (ChangeSpec.witness6 (enc := enc) (C := Try.checked) false ⟨#[], #[(Value.slice none 0 0), (Value.agg #[(Value.int .i64 0), (Value.string ByteArray.empty), (Value.string ByteArray.empty)]), (Value.string ByteArray.empty), (Value.string ByteArray.empty), (Value.int .i64 0)], []⟩ 8 (by kernel_rfl) (by kernel_rfl) (by kernel_rfl) (by kernel_rfl))
    authWider_laidOut (by kernel_rfl) rfl rfl Try.underlying4 ?_ ?_
  · intro ds hd
    match ds, hd with
    | [d0, d1, d2, d3, d4], _ => rfl
  · intro W base args ds before hval0 hA0 hsz
    have hval : ∀ (j : Nat) t v, Try.f6.params[j]? = some t → args[j]? = some v → Value.okWide Try.prog W .any base t v := hval0
    have hA : DataW.TrodAll enc Try.prog W 0 (fun _ => true) true Try.f6.params.toList args.toList ds before := hA0
    rw [Try.params6] at hA hval
    obtain ⟨v0, vs0, e0, ds0, p0, q0, hargs, rfl, rfl, h0, r0⟩ := trodAll_cons hA
    obtain ⟨v1, vs1, e1, ds1, p1, q1, rfl, rfl, rfl, h1, r1⟩ := trodAll_cons r0
    obtain ⟨v2, vs2, e2, ds2, p2, q2, rfl, rfl, rfl, h2, r2⟩ := trodAll_cons r1
    obtain ⟨v3, vs3, e3, ds3, p3, q3, rfl, rfl, rfl, h3, r3⟩ := trodAll_cons r2
    obtain ⟨v4, vs4, e4, ds4, p4, q4, rfl, rfl, rfl, h4, r4⟩ := trodAll_cons r3
    obtain ⟨rfl, rfl, rfl⟩ := trodAll_nil r4
    obtain rfl : args = #[v0, v1, v2, v3, v4] := by apply Array.ext'; simpa using hargs
    have rd0 := reads_of_trod h0
    obtain ⟨sa0, sn0, sc0, rfl⟩ := okWide_slice Try.underlying46 (hval 0 46 v0 rfl rfl)
    obtain ⟨cs1, rfl, hc1⟩ := okWide_struct Try.underlying51 (hval 1 51 v1 rfl rfl)
    obtain ⟨hl1, hf1⟩ := inv_struct Try.underlying51 (reads_of_trod h1)
    have hn1 : cs1.size = 3 := hc1.trans (by kernel_rfl)
    obtain ⟨c1_0, c1_1, c1_2, rfl⟩ : ∃ c1_0 c1_1 c1_2, cs1 = #[c1_0, c1_1, c1_2] := by
      obtain ⟨l⟩ := cs1
      match l, hn1 with
      | [c1_0, c1_1, c1_2], _ => exact ⟨c1_0, c1_1, c1_2, rfl⟩
    obtain ⟨a1_0, rfl, wf1_0⟩ := inv_int Try.underlying3 (fld1 hf1 0 rfl (by kernel_rfl) (c := c1_0) rfl)
    have b1_0 := authWider_i64 wf1_0
    obtain ⟨a1_1, rfl, sz1_1⟩ := inv_string Try.underlying9 (fld1 hf1 1 rfl (by kernel_rfl) (c := c1_1) rfl)
    obtain ⟨a1_2, rfl, sz1_2⟩ := inv_string Try.underlying9 (fld1 hf1 2 rfl (by kernel_rfl) (c := c1_2) rfl)
    obtain ⟨a2, rfl, -⟩ := Go.ChangeMaps.open_string Try.underlying9 (hval 2 9 v2 rfl rfl) h2
    obtain ⟨a3, rfl, -⟩ := Go.ChangeMaps.open_string Try.underlying9 (hval 3 9 v3 rfl rfl) h3
    obtain ⟨a4, rfl, rfl, rfl, wf4⟩ := open_int Try.underlying3 (hval 4 3 v4 rfl rfl) h4
    have b4 := authWider_i64 wf4
    obtain ⟨fuel0, hr0⟩ := Reads.some_ rd0
    obtain _ | fuel0 := fuel0
    · exact hr0.zero.elim
    obtain ⟨q0, n0, k0, l0, e0, r0, p0, -⟩ := open_list (n := 3) PM.cells _ (by kernel_rfl) (by decide) PM.len Try.underlying46 (fun xs hx => open_PM hx) hr0
    exact law_calls ((fnAuthWider (hp W) _ l0 ⟨a1_0, a1_1, a1_2⟩ _ _ _ r0).mono fun v post h => h.1)
theorem authWider_holds : Rows.FnAuthWiderSaid :=
  OpenClaim.holds_of_wide 6 Try.f6 rfl rfl rfl rfl rfl rfl rfl ⟨rfl, rfl, rfl, rfl, rfl⟩ rfl rfl rfl rfl rfl (by kernel_rfl) Try.func6 (by kernel_rfl)
    (of_decide_eq_true (by kernel_rfl)) (by unfold Func.isWrapper; rw [if_neg (of_decide_eq_false (by kernel_rfl))]; exact ⟨rfl, rfl⟩)
    (fun os started H enc _ => authWider_lifted os started H enc)
#print axioms authWider_holds
end Go.Proofs.Ytlnihndjepjagaa
