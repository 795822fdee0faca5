/- Proved: if one byte of the value of a row that counts (of a tombstone: of its key) is another one, the hash is another one. For every input; no condition is added. -/
import Derived.Test.YtgeggiebefonhaaRows
import Derived.Test.YtgeggiebefonhaaGwL
import Derived.Test.YtgeggiebefonhaaHdI0
import Derived.Lib.SmallJoins
set_option linter.unusedVariables false
set_option linter.unusedSimpArgs false
namespace Go.Proofs.Ytgeggiebefonhaa
open Go Go.RowKit Go.ChangeShapes Go.WideShapes Go.ChangeAt Go.Joins Gw
theorem hasherSees_own : ownKnob Try.prog.godebug = none := by kernel_rfl
theorem hasherSees_laidOut : laidOutB Try.prog = true := by kernel_rfl
theorem hasherSees_u8 {a : Int} (h : (Lit.int .u8 a).wf = true) : 0 ≤ a ∧ a < 256 := by
  simp only [Lit.wf, IntKind.min, IntKind.max, IntKind.signed, IntKind.bits, Bool.and_eq_true, decide_eq_true_eq, if_true, if_false, Bool.false_eq_true] at h
  omega
theorem hasherSees_i64 {a : Int} (h : (Lit.int .i64 a).wf = true) : -9223372036854775808 ≤ a ∧ a < 9223372036854775808 := by
  simp only [Lit.wf, IntKind.min, IntKind.max, IntKind.signed, IntKind.bits, Bool.and_eq_true, decide_eq_true_eq, if_true] at h
  omega
section
variable {H : Type} {enc : TypeId × Value → H} {w : World} {base : Nat} {spare : Nat → Bool} {held : Bool}
set_option maxRecDepth 100000 in
theorem open_RV {fuel : Nat} {xs : List Value} (h : ReadsF enc Try.prog w base spare held fuel 38 xs) : ∃ x : RV, xs = x.cells ∧ ((Lit.int .i64 x.main).wf = true ∧ (Lit.int .i64 x.sub).wf = true) := by
  obtain _ | fuel := fuel
  · exact h.zero.elim
  obtain ⟨hl0, hf0⟩ := inv_structF Try.underlying38 h
  have hl0 : xs.length = 2 := hl0.trans (by kernel_rfl)
  obtain ⟨c0, c1, rfl⟩ : ∃ c0 c1, xs = [c0, c1] := by
    match xs, hl0 with
    | [c0, c1], _ => exact ⟨c0, c1, rfl⟩
  obtain ⟨a0, rfl, w0⟩ := inv_int Try.underlying2 (fld1F hf0 0 rfl (by kernel_rfl) (c := c0) rfl).reads
  obtain ⟨a1, rfl, w1⟩ := inv_int Try.underlying2 (fld1F hf0 1 rfl (by kernel_rfl) (c := c1) rfl).reads
  exact ⟨⟨a0, a1⟩, rfl, ⟨w0, w1⟩⟩
set_option maxRecDepth 100000 in
theorem open_RW {fuel : Nat} {xs : List Value} (h : ReadsF enc Try.prog w base spare held fuel 42 xs) : ∃ x : RW, xs = x.cells ∧ ((Lit.int .i64 x.rev_Main).wf = true ∧ (Lit.int .i64 x.rev_Sub).wf = true ∧ x.kV_Key.size ≤ maxLen ∧ x.kV_Value.size ≤ maxLen ∧ (Lit.int .i64 x.kV_Create).wf = true ∧ (Lit.int .i64 x.kV_Mod).wf = true ∧ (Lit.int .i64 x.kV_Version).wf = true ∧ (Lit.int .i64 x.kV_Lease).wf = true) := by
  obtain _ | fuel := fuel
  · exact h.zero.elim
  obtain ⟨hl0, hf0⟩ := inv_structF Try.underlying42 h
  have hl0 : xs.length = 9 := hl0.trans (by kernel_rfl)
  obtain ⟨c0, c1, c2, c3, c4, c5, c6, c7, c8, rfl⟩ : ∃ c0 c1 c2 c3 c4 c5 c6 c7 c8, xs = [c0, c1, c2, c3, c4, c5, c6, c7, c8] := by
    match xs, hl0 with
    | [c0, c1, c2, c3, c4, c5, c6, c7, c8], _ => exact ⟨c0, c1, c2, c3, c4, c5, c6, c7, c8, rfl⟩
  have hs0_0 := hf0 0 _ rfl
  replace hs0_0 : ReadsF enc Try.prog w base spare held fuel 38 [c0, c1] := hs0_0
  obtain ⟨a2, rfl⟩ := inv_bool Try.underlying4 (fld1F hf0 1 rfl (by kernel_rfl) (c := c2) rfl).reads
  have hs0_2 := hf0 2 _ rfl
  replace hs0_2 : ReadsF enc Try.prog w base spare held fuel 40 [c3, c4, c5, c6, c7, c8] := hs0_2
  obtain _ | fuel := fuel
  · exact hs0_0.zero.elim
  obtain ⟨hl1, hf1⟩ := inv_structF Try.underlying38 hs0_0
  obtain ⟨a0, rfl, w0⟩ := inv_int Try.underlying2 (fld1F hf1 0 rfl (by kernel_rfl) (c := c0) rfl).reads
  obtain ⟨a1, rfl, w1⟩ := inv_int Try.underlying2 (fld1F hf1 1 rfl (by kernel_rfl) (c := c1) rfl).reads
  obtain ⟨hl2, hf2⟩ := inv_structF Try.underlying40 hs0_2
  obtain ⟨a3, rfl, w3⟩ := inv_string Try.underlying9 (fld1F hf2 0 rfl (by kernel_rfl) (c := c3) rfl).reads
  obtain ⟨a4, rfl, w4⟩ := inv_string Try.underlying9 (fld1F hf2 1 rfl (by kernel_rfl) (c := c4) rfl).reads
  obtain ⟨a5, rfl, w5⟩ := inv_int Try.underlying2 (fld1F hf2 2 rfl (by kernel_rfl) (c := c5) rfl).reads
  obtain ⟨a6, rfl, w6⟩ := inv_int Try.underlying2 (fld1F hf2 3 rfl (by kernel_rfl) (c := c6) rfl).reads
  obtain ⟨a7, rfl, w7⟩ := inv_int Try.underlying2 (fld1F hf2 4 rfl (by kernel_rfl) (c := c7) rfl).reads
  obtain ⟨a8, rfl, w8⟩ := inv_int Try.underlying2 (fld1F hf2 5 rfl (by kernel_rfl) (c := c8) rfl).reads
  exact ⟨⟨a0, a1, a2, a3, a4, a5, a6, a7, a8⟩, rfl, ⟨w0, w1, w3, w4, w5, w6, w7, w8⟩⟩
end
set_option maxRecDepth 100000 in
theorem hasherSees_lifted (os : Os) (started : os.Started) (H : Type) (enc : TypeId × Value → H) :
    ReturnsInHanded {} Try.checked os 4 .any (Rows.fnHasherSeesSpec.pre6 enc Try.prog Try.f4 [] false) (Rows.fnHasherSeesSpec.post enc Try.prog Try.f4 false true false false) := by
  refine law_lift (C := Try.checked) (tb := 4) hasherSees_own started (by kernel_rfl) Try.func4
    (ChangeSpec.witness6 (enc := enc) (C := Try.checked) false ⟨#[], #[(Value.int .i64 0), (Value.int .i64 0), (Value.slice none 0 0), (Value.slice none 0 0), (Value.int .i64 0), (Value.int .i64 0), (Value.int .u8 0)], []⟩ 8 (by kernel_rfl) (by kernel_rfl) (by kernel_rfl) (by kernel_rfl))
    hasherSees_laidOut (by kernel_rfl) rfl rfl Try.underlying4 ?_ ?_
  · intro ds hd
    match ds, hd with
    | [d0, d1, d2, d3, d4, d5, d6], _ => rfl
  · intro W base args ds before hval0 hA0 hsz
    have hval : ∀ (j : Nat) t v, Try.f4.params[j]? = some t → args[j]? = some v → Value.okWide Try.prog W .any base t v := hval0
    have hA : DataW.TrodAll enc Try.prog W 0 (fun _ => true) true Try.f4.params.toList args.toList ds before := hA0
    rw [Try.params4] at hA hval
    obtain ⟨v0, vs0, e0, ds0, p0, q0, hargs, rfl, rfl, h0, r0⟩ := trodAll_cons hA
    obtain ⟨v1, vs1, e1, ds1, p1, q1, rfl, rfl, rfl, h1, r1⟩ := trodAll_cons r0
    obtain ⟨v2, vs2, e2, ds2, p2, q2, rfl, rfl, rfl, h2, r2⟩ := trodAll_cons r1
    obtain ⟨v3, vs3, e3, ds3, p3, q3, rfl, rfl, rfl, h3, r3⟩ := trodAll_cons r2
    obtain ⟨v4, vs4, e4, ds4, p4, q4, rfl, rfl, rfl, h4, r4⟩ := trodAll_cons r3
    obtain ⟨v5, vs5, e5, ds5, p5, q5, rfl, rfl, rfl, h5, r5⟩ := trodAll_cons r4
    obtain ⟨v6, vs6, e6, ds6, p6, q6, rfl, rfl, rfl, h6, r6⟩ := trodAll_cons r5
    obtain ⟨rfl, rfl, rfl⟩ := trodAll_nil r6
    obtain rfl : args = #[v0, v1, v2, v3, v4, v5, v6] := by apply Array.ext'; simpa using hargs
    obtain ⟨a0, rfl, rfl, rfl, wf0⟩ := open_int Try.underlying2 (hval 0 2 v0 rfl rfl) h0
    have b0 := hasherSees_i64 wf0
    obtain ⟨a1, rfl, rfl, rfl, wf1⟩ := open_int Try.underlying2 (hval 1 2 v1 rfl rfl) h1
    have b1 := hasherSees_i64 wf1
    have rd2 := reads_of_trod h2
    obtain ⟨sa2, sn2, sc2, rfl⟩ := okWide_slice Try.underlying33 (hval 2 33 v2 rfl rfl)
    have rd3 := reads_of_trod h3
    obtain ⟨sa3, sn3, sc3, rfl⟩ := okWide_slice Try.underlying34 (hval 3 34 v3 rfl rfl)
    obtain ⟨a4, rfl, rfl, rfl, wf4⟩ := open_int Try.underlying3 (hval 4 3 v4 rfl rfl) h4
    have b4 := hasherSees_i64 wf4
    obtain ⟨a5, rfl, rfl, rfl, wf5⟩ := open_int Try.underlying3 (hval 5 3 v5 rfl rfl) h5
    have b5 := hasherSees_i64 wf5
    obtain ⟨a6, rfl, rfl, rfl, wf6⟩ := open_int Try.underlying5 (hval 6 5 v6 rfl rfl) h6
    obtain ⟨fuel2, hr2⟩ := Reads.some_ rd2
    obtain _ | fuel2 := fuel2
    · exact hr2.zero.elim
    obtain ⟨q2, n2, k2, l2, e2, r2, p2, -⟩ := open_list (n := 2) RV.cells _ (by kernel_rfl) (by decide) RV.len Try.underlying33 (fun xs hx => open_RV hx) hr2
    obtain ⟨fuel3, hr3⟩ := Reads.some_ rd3
    obtain _ | fuel3 := fuel3
    · exact hr3.zero.elim
    obtain ⟨q3, n3, k3, l3, e3, r3, p3, -⟩ := open_list (n := 9) RW.cells _ (by kernel_rfl) (by decide) RW.len Try.underlying34 (fun xs hx => open_RW hx) hr3
    exact law_calls ((fnHasherSees (hp W) _ _ _ _ _ _ _ l2 l3 r2 r3 (fun x hx => by have h1 := hasherSees_i64 (p3 x hx).1; have h2 := hasherSees_i64 (p3 x hx).2.1; omega) (by omega) (by omega) (by have := hasherSees_u8 wf6; omega) (by have := hasherSees_u8 wf6; omega)).mono fun v post h => h.1)
theorem hasherSees_holds : Rows.FnHasherSeesSaid :=
  OpenClaim.holds_of_wide 4 Try.f4 rfl rfl rfl rfl rfl rfl rfl ⟨rfl, rfl, rfl, rfl, rfl⟩ rfl rfl rfl rfl rfl (by kernel_rfl) Try.func4 (by kernel_rfl)
    (of_decide_eq_true (by kernel_rfl)) (by unfold Func.isWrapper; rw [if_neg (of_decide_eq_false (by kernel_rfl))]; exact ⟨rfl, rfl⟩)
    (fun os started H enc _ => hasherSees_lifted os started H enc)
#print axioms hasherSees_holds
end Go.Proofs.Ytgeggiebefonhaa
