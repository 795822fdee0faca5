/- Proved: a key's index that begins as the lives of another one goes on as that one does. For every input; no condition is added. -/
import Derived.Test.YtiblemgccgbhoaaRows
import Derived.Lib.SmallJoins
import Derived.Test.YtiblemgccgbhoaaGo7
set_option linter.unusedVariables false
set_option linter.unusedSimpArgs false
namespace Go.Proofs.Ytiblemgccgbhoaa
open Go Go.RowKit Go.ChangeShapes Go.WideShapes Go.ChangeAt Go.Joins Gw
theorem keyGoesOn_own : ownKnob Try.prog.godebug = none := by kernel_rfl
theorem keyGoesOn_laidOut : laidOutB Try.prog = true := by kernel_rfl
theorem keyGoesOn_i64 {a : Int} (h : (Lit.int .i64 a).wf = true) : -9223372036854775808 ≤ a ∧ a < 9223372036854775808 := by
  simp only [Lit.wf, IntKind.min, IntKind.max, IntKind.signed, IntKind.bits, Bool.and_eq_true, decide_eq_true_eq, if_true] at h
  omega
section
variable {H : Type} {enc : TypeId × Value → H} {w : World} {base : Nat} {spare : Nat → Bool} {held : Bool}
set_option maxRecDepth 100000 in
theorem open_KO {fuel : Nat} {xs : List Value} (h : ReadsF enc Try.prog w base spare held fuel 39 xs) : ∃ x : KO, xs = x.cells ∧ ((Lit.int .i64 x.kind).wf = true ∧ (Lit.int .i64 x.rev_Main).wf = true ∧ (Lit.int .i64 x.rev_Sub).wf = true ∧ (Lit.int .i64 x.created_Main).wf = true ∧ (Lit.int .i64 x.created_Sub).wf = true ∧ (Lit.int .i64 x.ver).wf = true ∧ (Lit.int .i64 x.at_).wf = true) := by
  obtain _ | fuel := fuel
  · exact h.zero.elim
  obtain ⟨hl0, hf0⟩ := inv_structF Try.underlying39 h
  have hl0 : xs.length = 7 := hl0.trans (by kernel_rfl)
  obtain ⟨c0, c1, c2, c3, c4, c5, c6, rfl⟩ : ∃ c0 c1 c2 c3 c4 c5 c6, xs = [c0, c1, c2, c3, c4, c5, c6] := by
    match xs, hl0 with
    | [c0, c1, c2, c3, c4, c5, c6], _ => exact ⟨c0, c1, c2, c3, c4, c5, c6, rfl⟩
  obtain ⟨a0, rfl, w0⟩ := inv_int Try.underlying3 (fld1F hf0 0 rfl (by kernel_rfl) (c := c0) rfl).reads
  have hs0_1 := hf0 1 _ rfl
  replace hs0_1 : ReadsF enc Try.prog w base spare held fuel 31 [c1, c2] := hs0_1
  have hs0_2 := hf0 2 _ rfl
  replace hs0_2 : ReadsF enc Try.prog w base spare held fuel 31 [c3, c4] := hs0_2
  obtain ⟨a5, rfl, w5⟩ := inv_int Try.underlying2 (fld1F hf0 3 rfl (by kernel_rfl) (c := c5) rfl).reads
  obtain ⟨a6, rfl, w6⟩ := inv_int Try.underlying2 (fld1F hf0 4 rfl (by kernel_rfl) (c := c6) rfl).reads
  obtain _ | fuel := fuel
  · exact hs0_1.zero.elim
  obtain ⟨hl1, hf1⟩ := inv_structF Try.underlying31 hs0_1
  obtain ⟨a1, rfl, w1⟩ := inv_int Try.underlying2 (fld1F hf1 0 rfl (by kernel_rfl) (c := c1) rfl).reads
  obtain ⟨a2, rfl, w2⟩ := inv_int Try.underlying2 (fld1F hf1 1 rfl (by kernel_rfl) (c := c2) rfl).reads
  obtain ⟨hl2, hf2⟩ := inv_structF Try.underlying31 hs0_2
  obtain ⟨a3, rfl, w3⟩ := inv_int Try.underlying2 (fld1F hf2 0 rfl (by kernel_rfl) (c := c3) rfl).reads
  obtain ⟨a4, rfl, w4⟩ := inv_int Try.underlying2 (fld1F hf2 1 rfl (by kernel_rfl) (c := c4) rfl).reads
  exact ⟨⟨a0, a1, a2, a3, a4, a5, a6⟩, rfl, ⟨w0, w1, w2, w3, w4, w5, w6⟩⟩
end
set_option maxRecDepth 100000 in
theorem keyGoesOn_lifted (os : Os) (started : os.Started) (H : Type) (enc : TypeId × Value → H) :
    ReturnsInHanded {} Try.checked os 3 .any (Rows.fnKeyGoesOnSpec.pre6 enc Try.prog Try.f3 [] false) (Rows.fnKeyGoesOnSpec.post enc Try.prog Try.f3 false true false false) := by
  refine law_lift (C := Try.checked) (tb := 4) keyGoesOn_own started (by kernel_rfl) Try.func3
    (ChangeSpec.witness6 (enc := enc) (C := Try.checked) false ⟨#[], #[(Value.string ByteArray.empty), (Value.slice none 0 0), (Value.slice none 0 0)], []⟩ 8 (by kernel_rfl) (by kernel_rfl) (by kernel_rfl) (by kernel_rfl))
    keyGoesOn_laidOut (by kernel_rfl) rfl rfl Try.underlying4 ?_ ?_
  · intro ds hd
    match ds, hd with
    | [d0, d1, d2], _ => rfl
  · intro W base args ds before hval0 hA0 hsz
    have hval : ∀ (j : Nat) t v, Try.f3.params[j]? = some t → args[j]? = some v → Value.okWide Try.prog W .any base t v := hval0
    have hA : DataW.TrodAll enc Try.prog W 0 (fun _ => true) true Try.f3.params.toList args.toList ds before := hA0
    rw [Try.params3] at hA hval
    obtain ⟨v0, vs0, e0, ds0, p0, q0, hargs, rfl, rfl, h0, r0⟩ := trodAll_cons hA
    obtain ⟨v1, vs1, e1, ds1, p1, q1, rfl, rfl, rfl, h1, r1⟩ := trodAll_cons r0
    obtain ⟨v2, vs2, e2, ds2, p2, q2, rfl, rfl, rfl, h2, r2⟩ := trodAll_cons r1
    obtain ⟨rfl, rfl, rfl⟩ := trodAll_nil r2
    obtain rfl : args = #[v0, v1, v2] := by apply Array.ext'; simpa using hargs
    obtain ⟨a0, rfl, -⟩ := Go.ChangeMaps.open_string Try.underlying9 (hval 0 9 v0 rfl rfl) h0
    have rd1 := reads_of_trod h1
    obtain ⟨sa1, sn1, sc1, rfl⟩ := okWide_slice Try.underlying22 (hval 1 22 v1 rfl rfl)
    have rd2 := reads_of_trod h2
    obtain ⟨sa2, sn2, sc2, rfl⟩ := okWide_slice Try.underlying22 (hval 2 22 v2 rfl rfl)
    obtain ⟨fuel1, hr1⟩ := Reads.some_ rd1
    obtain _ | fuel1 := fuel1
    · exact hr1.zero.elim
    obtain ⟨q1, n1, k1, l1, e1, r1, p1, -⟩ := open_list (n := 7) KO.cells _ (by kernel_rfl) (by decide) KO.len Try.underlying22 (fun xs hx => open_KO hx) hr1
    obtain ⟨fuel2, hr2⟩ := Reads.some_ rd2
    obtain _ | fuel2 := fuel2
    · exact hr2.zero.elim
    obtain ⟨q2, n2, k2, l2, e2, r2, p2, -⟩ := open_list (n := 7) KO.cells _ (by kernel_rfl) (by decide) KO.len Try.underlying22 (fun xs hx => open_KO hx) hr2
    exact law_calls ((fnKeyGoesOn (hp W) a0 _ _ _ _ l1 l2 r1 r2).mono fun v post h => h.1)
theorem keyGoesOn_holds : Rows.FnKeyGoesOnSaid :=
  OpenClaim.holds_of_wide 3 Try.f3 rfl rfl rfl rfl rfl rfl rfl ⟨rfl, rfl, rfl, rfl, rfl⟩ rfl rfl rfl rfl rfl (by kernel_rfl) Try.func3 (by kernel_rfl)
    (of_decide_eq_true (by kernel_rfl)) (by unfold Func.isWrapper; rw [if_neg (of_decide_eq_false (by kernel_rfl))]; exact ⟨rfl, rfl⟩)
    (fun os started H enc _ => keyGoesOn_lifted os started H enc)
#print axioms keyGoesOn_holds
end Go.Proofs.Ytiblemgccgbhoaa
