/- Proved: a group is told just of the rows that somebody watches. For every input; no condition is added. -/
import Derived.Test.YtlnihndjepjagaaGreatRows
import Derived.Lib.SmallJoins
import Derived.Test.YtlnihndjepjagaaGreatEc7
set_option linter.unusedVariables false
set_option linter.unusedSimpArgs false
namespace Go.Proofs.YtlnihndjepjagaaGreat
open Go Go.RowKit Go.ChangeShapes Go.WideShapes Go.ChangeAt Go.Joins Gw
theorem eventsOf_own : ownKnob Tryz.prog.godebug = none := by kernel_rfl
theorem eventsOf_laidOut : laidOutB Tryz.prog = true := by kernel_rfl
theorem eventsOf_i64 {a : Int} (h : (Lit.int .i64 a).wf = true) : -9223372036854775808 ≤ a ∧ a < 9223372036854775808 := by
  simp only [Lit.wf, IntKind.min, IntKind.max, IntKind.signed, IntKind.bits, Bool.and_eq_true, decide_eq_true_eq, if_true] at h
  omega
section
variable {H : Type} {enc : TypeId × Value → H} {w : World} {base : Nat} {spare : Nat → Bool} {held : Bool}
set_option maxRecDepth 100000 in
theorem open_RW {fuel : Nat} {xs : List Value} (h : ReadsF enc Tryz.prog w base spare held fuel 70 xs) : ∃ x : RW, xs = x.cells ∧ ((Lit.int .i64 x.rev_Main).wf = true ∧ (Lit.int .i64 x.rev_Sub).wf = true ∧ x.kV_Key.size ≤ maxLen ∧ x.kV_Value.size ≤ maxLen ∧ (Lit.int .i64 x.kV_Create).wf = true ∧ (Lit.int .i64 x.kV_Mod).wf = true ∧ (Lit.int .i64 x.kV_Version).wf = true ∧ (Lit.int .i64 x.kV_Lease).wf = true) := by
  obtain _ | fuel := fuel
  · exact h.zero.elim
  obtain ⟨hl0, hf0⟩ := inv_structF Tryz.underlying70 h
  have hl0 : xs.length = 9 := hl0.trans (by kernel_rfl)
  obtain ⟨c0, c1, c2, c3, c4, c5, c6, c7, c8, rfl⟩ : ∃ c0 c1 c2 c3 c4 c5 c6 c7 c8, xs = [c0, c1, c2, c3, c4, c5, c6, c7, c8] := by
    match xs, hl0 with
    | [c0, c1, c2, c3, c4, c5, c6, c7, c8], _ => exact ⟨c0, c1, c2, c3, c4, c5, c6, c7, c8, rfl⟩
  have hs0_0 := hf0 0 _ rfl
  replace hs0_0 : ReadsF enc Tryz.prog w base spare held fuel 68 [c0, c1] := hs0_0
  obtain ⟨a2, rfl⟩ := inv_bool Tryz.underlying4 (fld1F hf0 1 rfl (by kernel_rfl) (c := c2) rfl).reads
  have hs0_2 := hf0 2 _ rfl
  replace hs0_2 : ReadsF enc Tryz.prog w base spare held fuel 52 [c3, c4, c5, c6, c7, c8] := hs0_2
  obtain _ | fuel := fuel
  · exact hs0_0.zero.elim
  obtain ⟨hl1, hf1⟩ := inv_structF Tryz.underlying68 hs0_0
  obtain ⟨a0, rfl, w0⟩ := inv_int Tryz.underlying2 (fld1F hf1 0 rfl (by kernel_rfl) (c := c0) rfl).reads
  obtain ⟨a1, rfl, w1⟩ := inv_int Tryz.underlying2 (fld1F hf1 1 rfl (by kernel_rfl) (c := c1) rfl).reads
  obtain ⟨hl2, hf2⟩ := inv_structF Tryz.underlying52 hs0_2
  obtain ⟨a3, rfl, w3⟩ := inv_string Tryz.underlying9 (fld1F hf2 0 rfl (by kernel_rfl) (c := c3) rfl).reads
  obtain ⟨a4, rfl, w4⟩ := inv_string Tryz.underlying9 (fld1F hf2 1 rfl (by kernel_rfl) (c := c4) rfl).reads
  obtain ⟨a5, rfl, w5⟩ := inv_int Tryz.underlying2 (fld1F hf2 2 rfl (by kernel_rfl) (c := c5) rfl).reads
  obtain ⟨a6, rfl, w6⟩ := inv_int Tryz.underlying2 (fld1F hf2 3 rfl (by kernel_rfl) (c := c6) rfl).reads
  obtain ⟨a7, rfl, w7⟩ := inv_int Tryz.underlying2 (fld1F hf2 4 rfl (by kernel_rfl) (c := c7) rfl).reads
  obtain ⟨a8, rfl, w8⟩ := inv_int Tryz.underlying2 (fld1F hf2 5 rfl (by kernel_rfl) (c := c8) rfl).reads
  exact ⟨⟨a0, a1, a2, a3, a4, a5, a6, a7, a8⟩, rfl, ⟨w0, w1, w3, w4, w5, w6, w7, w8⟩⟩
set_option maxRecDepth 100000 in
theorem open_GW {fuel : Nat} {xs : List Value} (h : ReadsF enc Tryz.prog w base spare held fuel 26 xs) : ∃ x : GW, xs = x.cells ∧ ((Lit.int .i64 x.iD).wf = true ∧ x.key.size ≤ maxLen ∧ x.end_.size ≤ maxLen ∧ (Lit.int .i64 x.minRev).wf = true) := by
  obtain _ | fuel := fuel
  · exact h.zero.elim
  obtain ⟨hl0, hf0⟩ := inv_structF Tryz.underlying26 h
  have hl0 : xs.length = 5 := hl0.trans (by kernel_rfl)
  obtain ⟨c0, c1, c2, c3, c4, rfl⟩ : ∃ c0 c1 c2 c3 c4, xs = [c0, c1, c2, c3, c4] := by
    match xs, hl0 with
    | [c0, c1, c2, c3, c4], _ => exact ⟨c0, c1, c2, c3, c4, rfl⟩
  obtain ⟨a0, rfl, w0⟩ := inv_int Tryz.underlying2 (fld1F hf0 0 rfl (by kernel_rfl) (c := c0) rfl).reads
  obtain ⟨a1, rfl, w1⟩ := inv_string Tryz.underlying9 (fld1F hf0 1 rfl (by kernel_rfl) (c := c1) rfl).reads
  obtain ⟨a2, rfl, w2⟩ := inv_string Tryz.underlying9 (fld1F hf0 2 rfl (by kernel_rfl) (c := c2) rfl).reads
  obtain ⟨a3, rfl⟩ := inv_bool Tryz.underlying4 (fld1F hf0 3 rfl (by kernel_rfl) (c := c3) rfl).reads
  obtain ⟨a4, rfl, w4⟩ := inv_int Tryz.underlying2 (fld1F hf0 4 rfl (by kernel_rfl) (c := c4) rfl).reads
  exact ⟨⟨a0, a1, a2, a3, a4⟩, rfl, ⟨w0, w1, w2, w4⟩⟩
end
set_option maxRecDepth 100000 in
theorem eventsOf_lifted (os : Os) (started : os.Started) (H : Type) (enc : TypeId × Value → H) :
    ReturnsInHanded {} Tryz.checked os 5 .any (Rows.fnEventsOfSpec.pre6 enc Tryz.prog Tryz.f5 [] false) (Rows.fnEventsOfSpec.post enc Tryz.prog Tryz.f5 false true false false) := by
  refine law_lift (C := Tryz.checked) (tb := 4) eventsOf_own started (by kernel_rfl) Tryz.func5
    (ChangeSpec.witness6 (enc := enc) (C := Tryz.checked) false ⟨#[], #[(Value.slice none 0 0), (Value.slice none 0 0)], []⟩ 8 (by kernel_rfl) (by kernel_rfl) (by kernel_rfl) (by kernel_rfl))
    eventsOf_laidOut (by kernel_rfl) rfl rfl Tryz.underlying4 ?_ ?_
  · intro ds hd
    match ds, hd with
    | [d0, d1], _ => rfl
  · intro W base args ds before hval0 hA0 hsz
    have hval : ∀ (j : Nat) t v, Tryz.f5.params[j]? = some t → args[j]? = some v → Value.okWide Tryz.prog W .any base t v := hval0
    have hA : DataW.TrodAll enc Tryz.prog W 0 (fun _ => true) true Tryz.f5.params.toList args.toList ds before := hA0
    rw [Tryz.params5] at hA hval
    obtain ⟨v0, vs0, e0, ds0, p0, q0, hargs, rfl, rfl, h0, r0⟩ := trodAll_cons hA
    obtain ⟨v1, vs1, e1, ds1, p1, q1, rfl, rfl, rfl, h1, r1⟩ := trodAll_cons r0
    obtain ⟨rfl, rfl, rfl⟩ := trodAll_nil r1
    obtain rfl : args = #[v0, v1] := by apply Array.ext'; simpa using hargs
    have rd0 := reads_of_trod h0
    obtain ⟨sa0, sn0, sc0, rfl⟩ := okWide_slice Tryz.underlying47 (hval 0 47 v0 rfl rfl)
    have rd1 := reads_of_trod h1
    obtain ⟨sa1, sn1, sc1, rfl⟩ := okWide_slice Tryz.underlying22 (hval 1 22 v1 rfl rfl)
    obtain ⟨fuel0, hr0⟩ := Reads.some_ rd0
    obtain _ | fuel0 := fuel0
    · exact hr0.zero.elim
    obtain ⟨q0, n0, k0, l0, e0, r0, p0, -⟩ := open_list (n := 9) RW.cells _ (by kernel_rfl) (by decide) RW.len Tryz.underlying47 (fun xs hx => open_RW hx) hr0
    obtain ⟨fuel1, hr1⟩ := Reads.some_ rd1
    obtain _ | fuel1 := fuel1
    · exact hr1.zero.elim
    obtain ⟨q1, n1, k1, l1, e1, r1, p1, -⟩ := open_list (n := 5) GW.cells _ (by kernel_rfl) (by decide) GW.len Tryz.underlying22 (fun xs hx => open_GW hx) hr1
    exact law_calls ((fnEventsOf (hp W) _ _ l0 l1 r0 r1 (fun x hx => p0 x hx)).mono fun v post h => h.1)
theorem eventsOf_holds : Rows.FnEventsOfSaid :=
  OpenClaim.holds_of_wide 5 Tryz.f5 rfl rfl rfl rfl rfl rfl rfl ⟨rfl, rfl, rfl, rfl, rfl⟩ rfl rfl rfl rfl rfl (by kernel_rfl) Tryz.func5 (by kernel_rfl)
    (of_decide_eq_true (by kernel_rfl)) (by unfold Func.isWrapper; rw [if_neg (of_decide_eq_false (by kernel_rfl))]; exact ⟨rfl, rfl⟩)
    (fun os started H enc _ => eventsOf_lifted os started H enc)
#print axioms eventsOf_holds
end Go.Proofs.YtlnihndjepjagaaGreat
