/- Proved: a group contains a key just if somebody watches it. For every input; no condition is added. -/
import Derived.Test.YtlnihndjepjagaaGreatRows
import Derived.Lib.SmallJoins
import Derived.Test.YtlnihndjepjagaaGreatGc6
set_option linter.unusedVariables false
set_option linter.unusedSimpArgs false
namespace Go.Proofs.YtlnihndjepjagaaGreat
open Go Go.RowKit Go.ChangeShapes Go.WideShapes Go.ChangeAt Go.Joins Gw
theorem groupContains_own : ownKnob Tryz.prog.godebug = none := by kernel_rfl
theorem groupContains_laidOut : laidOutB Tryz.prog = true := by kernel_rfl
theorem groupContains_i64 {a : Int} (h : (Lit.int .i64 a).wf = true) : -9223372036854775808 ≤ a ∧ a < 9223372036854775808 := by
  simp only [Lit.wf, IntKind.min, IntKind.max, IntKind.signed, IntKind.bits, Bool.and_eq_true, decide_eq_true_eq, if_true] at h
  omega
section
variable {H : Type} {enc : TypeId × Value → H} {w : World} {base : Nat} {spare : Nat → Bool} {held : Bool}
set_option maxRecDepth 100000 in
theorem open_GW {fuel : Nat} {xs : List Value} (h : ReadsF enc Tryz.prog w base spare held fuel 26 xs) : ∃ x : GW, xs = x.cells ∧ ((Lit.int .i64 x.iD).wf = true ∧ x.key.size ≤ maxLen ∧ x.end_.size ≤ maxLen ∧ (Lit.int .i64 x.minRev).wf = true) := by
  obtain _ | fuel := fuel
  · exact h.zero.elim
  obtain ⟨hl0, hf0⟩ := inv_structF Tryz.underlying26 h
  have hl0 : xs.length = 5 := hl0.trans (by kernel_rfl)
  obtain ⟨c0, c1, c2, c3, c4, rfl⟩ : ∃ c0 c1 c2 c3 c4, xs = [c0, c1, c2, c3, c4] := by
    match xs, hl0 with
    | [c0, c1, c2, c3, c4], _ => exact ⟨c0, c1, c2, c3, c4, rfl⟩
  obtain ⟨a0, rfl, w0⟩ := inv_int Tryz.underlying2 (fld1F hf0 0 rfl (by kernel_rfl) (c := c0) rfl).reads
  obtain ⟨a1, rfl, w1⟩ := inv_string Tryz.underlying9 (fld1F hf0 1 rfl (by kernel_rfl) (c := c1) rfl).reads
  obtain ⟨a2, rfl, w2⟩ := inv_string Tryz.underlying9 (fld1F hf0 2 rfl (by kernel_rfl) (c := c2) rfl).reads
  obtain ⟨a3, rfl⟩ := inv_bool Tryz.underlying4 (fld1F hf0 3 rfl (by kernel_rfl) (c := c3) rfl).reads
  obtain ⟨a4, rfl, w4⟩ := inv_int Tryz.underlying2 (fld1F hf0 4 rfl (by kernel_rfl) (c := c4) rfl).reads
  exact ⟨⟨a0, a1, a2, a3, a4⟩, rfl, ⟨w0, w1, w2, w4⟩⟩
end
set_option maxRecDepth 100000 in
theorem groupContains_lifted (os : Os) (started : os.Started) (H : Type) (enc : TypeId × Value → H) :
    ReturnsInHanded {} Tryz.checked os 3 .any (Rows.fnGroupContainsSpec.pre6 enc Tryz.prog Tryz.f3 [] false) (Rows.fnGroupContainsSpec.post enc Tryz.prog Tryz.f3 false true false false) := by
  refine law_lift (C := Tryz.checked) (tb := 4) groupContains_own started (by kernel_rfl) Tryz.func3
    (ChangeSpec.witness6 (enc := enc) (C := Tryz.checked) false ⟨#[], #[(Value.slice none 0 0), (Value.string ByteArray.empty)], []⟩ 8 (by kernel_rfl) (by kernel_rfl) (by kernel_rfl) (by kernel_rfl))
    groupContains_laidOut (by kernel_rfl) rfl rfl Tryz.underlying4 ?_ ?_
  · intro ds hd
    match ds, hd with
    | [d0, d1], _ => rfl
  · intro W base args ds before hval0 hA0 hsz
    have hval : ∀ (j : Nat) t v, Tryz.f3.params[j]? = some t → args[j]? = some v → Value.okWide Tryz.prog W .any base t v := hval0
    have hA : DataW.TrodAll enc Tryz.prog W 0 (fun _ => true) true Tryz.f3.params.toList args.toList ds before := hA0
    rw [Tryz.params3] at hA hval
    obtain ⟨v0, vs0, e0, ds0, p0, q0, hargs, rfl, rfl, h0, r0⟩ := trodAll_cons hA
    obtain ⟨v1, vs1, e1, ds1, p1, q1, rfl, rfl, rfl, h1, r1⟩ := trodAll_cons r0
    obtain ⟨rfl, rfl, rfl⟩ := trodAll_nil r1
    obtain rfl : args = #[v0, v1] := by apply Array.ext'; simpa using hargs
    have rd0 := reads_of_trod h0
    obtain ⟨sa0, sn0, sc0, rfl⟩ := okWide_slice Tryz.underlying22 (hval 0 22 v0 rfl rfl)
    obtain ⟨a1, rfl, -⟩ := Go.ChangeMaps.open_string Tryz.underlying9 (hval 1 9 v1 rfl rfl) h1
    obtain ⟨fuel0, hr0⟩ := Reads.some_ rd0
    obtain _ | fuel0 := fuel0
    · exact hr0.zero.elim
    obtain ⟨q0, n0, k0, l0, e0, r0, p0, -⟩ := open_list (n := 5) GW.cells _ (by kernel_rfl) (by decide) GW.len Tryz.underlying22 (fun xs hx => open_GW hx) hr0
    exact law_calls ((fnGroupContains (hp W) _ l0 _ r0).mono fun v post h => h.1)
theorem groupContains_holds : Rows.FnGroupContainsSaid :=
  OpenClaim.holds_of_wide 3 Tryz.f3 rfl rfl rfl rfl rfl rfl rfl ⟨rfl, rfl, rfl, rfl, rfl⟩ rfl rfl rfl rfl rfl (by kernel_rfl) Tryz.func3 (by kernel_rfl)
    (of_decide_eq_true (by kernel_rfl)) (by unfold Func.isWrapper; rw [if_neg (of_decide_eq_false (by kernel_rfl))]; exact ⟨rfl, rfl⟩)
    (fun os started H enc _ => groupContains_lifted os started H enc)
#print axioms groupContains_holds
end Go.Proofs.YtlnihndjepjagaaGreat
