/- Proved: what is brought together with another tree has all of its own, and those of the other one that an interval meets. For every input; no condition is added. -/
import Derived.Test.YtlnihndjepjagaaRows
import Derived.Lib.SmallJoins
import Derived.Test.YtlnihndjepjagaaTu7
set_option linter.unusedVariables false
set_option linter.unusedSimpArgs false
namespace Go.Proofs.Ytlnihndjepjagaa
open Go Go.RowKit Go.ChangeShapes Go.WideShapes Go.ChangeAt Go.Joins Gw
theorem treeUnion_own : ownKnob Try.prog.godebug = none := by kernel_rfl
theorem treeUnion_laidOut : laidOutB Try.prog = true := by kernel_rfl
theorem treeUnion_i64 {a : Int} (h : (Lit.int .i64 a).wf = true) : -9223372036854775808 ≤ a ∧ a < 9223372036854775808 := by
  simp only [Lit.wf, IntKind.min, IntKind.max, IntKind.signed, IntKind.bits, Bool.and_eq_true, decide_eq_true_eq, if_true] at h
  omega
section
variable {H : Type} {enc : TypeId × Value → H} {w : World} {base : Nat} {spare : Nat → Bool} {held : Bool}
set_option maxRecDepth 100000 in
theorem open_SN {fuel : Nat} {xs : List Value} (h : ReadsF enc Try.prog w base spare held fuel 44 xs) : ∃ x : SN, xs = x.cells ∧ (x.in__Begin.size ≤ maxLen ∧ x.in__End.size ≤ maxLen ∧ (Lit.int .i64 x.from_).wf = true ∧ (Lit.int .i64 x.till).wf = true) := by
  obtain _ | fuel := fuel
  · exact h.zero.elim
  obtain ⟨hl0, hf0⟩ := inv_structF Try.underlying44 h
  have hl0 : xs.length = 5 := hl0.trans (by kernel_rfl)
  obtain ⟨c0, c1, c2, c3, c4, rfl⟩ : ∃ c0 c1 c2 c3 c4, xs = [c0, c1, c2, c3, c4] := by
    match xs, hl0 with
    | [c0, c1, c2, c3, c4], _ => exact ⟨c0, c1, c2, c3, c4, rfl⟩
  have hs0_0 := hf0 0 _ rfl
  replace hs0_0 : ReadsF enc Try.prog w base spare held fuel 42 [c0, c1, c2] := hs0_0
  obtain ⟨a3, rfl, w3⟩ := inv_int Try.underlying2 (fld1F hf0 1 rfl (by kernel_rfl) (c := c3) rfl).reads
  obtain ⟨a4, rfl, w4⟩ := inv_int Try.underlying2 (fld1F hf0 2 rfl (by kernel_rfl) (c := c4) rfl).reads
  obtain _ | fuel := fuel
  · exact hs0_0.zero.elim
  obtain ⟨hl1, hf1⟩ := inv_structF Try.underlying42 hs0_0
  obtain ⟨a0, rfl, w0⟩ := inv_string Try.underlying9 (fld1F hf1 0 rfl (by kernel_rfl) (c := c0) rfl).reads
  obtain ⟨a1, rfl, w1⟩ := inv_string Try.underlying9 (fld1F hf1 1 rfl (by kernel_rfl) (c := c1) rfl).reads
  obtain ⟨a2, rfl⟩ := inv_bool Try.underlying4 (fld1F hf1 2 rfl (by kernel_rfl) (c := c2) rfl).reads
  exact ⟨⟨a0, a1, a2, a3, a4⟩, rfl, ⟨w0, w1, w3, w4⟩⟩
end
set_option maxRecDepth 100000 in
theorem treeUnion_lifted (os : Os) (started : os.Started) (H : Type) (enc : TypeId × Value → H) :
    ReturnsInHanded {} Try.checked os 8 .any (Rows.fnTreeUnionSpec.pre6 enc Try.prog Try.f8 [] false) (Rows.fnTreeUnionSpec.post enc Try.prog Try.f8 false true false false) := by
  refine law_lift (C := Try.checked) (tb := 4) treeUnion_own started (by kernel_rfl) Try.func8
    (ChangeSpec.witness6 (enc := enc) (C := Try.checked) false ⟨#[], #[(Value.int .i64 0), (Value.slice none 0 0), (Value.slice none 0 0), (Value.agg #[(Value.string ByteArray.empty), (Value.string ByteArray.empty), (Value.bool false), (Value.int .i64 0), (Value.int .i64 0)])], []⟩ 8 (by kernel_rfl) (by kernel_rfl) (by kernel_rfl) (by kernel_rfl))
    treeUnion_laidOut (by kernel_rfl) rfl rfl Try.underlying4 ?_ ?_
  · intro ds hd
    match ds, hd with
    | [d0, d1, d2, d3], _ => rfl
  · intro W base args ds before hval0 hA0 hsz
    have hval : ∀ (j : Nat) t v, Try.f8.params[j]? = some t → args[j]? = some v → Value.okWide Try.prog W .any base t v := hval0
    have hA : DataW.TrodAll enc Try.prog W 0 (fun _ => true) true Try.f8.params.toList args.toList ds before := hA0
    rw [Try.params8] at hA hval
    obtain ⟨v0, vs0, e0, ds0, p0, q0, hargs, rfl, rfl, h0, r0⟩ := trodAll_cons hA
    obtain ⟨v1, vs1, e1, ds1, p1, q1, rfl, rfl, rfl, h1, r1⟩ := trodAll_cons r0
    obtain ⟨v2, vs2, e2, ds2, p2, q2, rfl, rfl, rfl, h2, r2⟩ := trodAll_cons r1
    obtain ⟨v3, vs3, e3, ds3, p3, q3, rfl, rfl, rfl, h3, r3⟩ := trodAll_cons r2
    obtain ⟨rfl, rfl, rfl⟩ := trodAll_nil r3
    obtain rfl : args = #[v0, v1, v2, v3] := by apply Array.ext'; simpa using hargs
    obtain ⟨a0, rfl, rfl, rfl, wf0⟩ := open_int Try.underlying3 (hval 0 3 v0 rfl rfl) h0
    have b0 := treeUnion_i64 wf0
    have rd1 := reads_of_trod h1
    obtain ⟨sa1, sn1, sc1, rfl⟩ := okWide_slice Try.underlying30 (hval 1 30 v1 rfl rfl)
    have rd2 := reads_of_trod h2
    obtain ⟨sa2, sn2, sc2, rfl⟩ := okWide_slice Try.underlying30 (hval 2 30 v2 rfl rfl)
    obtain ⟨cs3, rfl, hc3⟩ := okWide_struct Try.underlying44 (hval 3 44 v3 rfl rfl)
    obtain ⟨hl3, hf3⟩ := inv_struct Try.underlying44 (reads_of_trod h3)
    have hn3 : cs3.size = 5 := hc3.trans (by kernel_rfl)
    obtain ⟨c3_0, c3_1, c3_2, c3_3, c3_4, rfl⟩ : ∃ c3_0 c3_1 c3_2 c3_3 c3_4, cs3 = #[c3_0, c3_1, c3_2, c3_3, c3_4] := by
      obtain ⟨l⟩ := cs3
      match l, hn3 with
      | [c3_0, c3_1, c3_2, c3_3, c3_4], _ => exact ⟨c3_0, c3_1, c3_2, c3_3, c3_4, rfl⟩
    have hs3_0 := hf3 0 _ rfl
    have hs3_0 : Reads enc Try.prog W 0 (fun _ => true) true 42 [c3_0, c3_1, c3_2] := hs3_0
    obtain ⟨hl3_0, hf3_0⟩ := inv_struct Try.underlying42 hs3_0
    obtain ⟨a3_0, rfl, sz3_0⟩ := inv_string Try.underlying9 (fld1 hf3_0 0 rfl (by kernel_rfl) (c := c3_0) rfl)
    obtain ⟨a3_1, rfl, sz3_1⟩ := inv_string Try.underlying9 (fld1 hf3_0 1 rfl (by kernel_rfl) (c := c3_1) rfl)
    obtain ⟨a3_2, rfl⟩ := inv_bool Try.underlying4 (fld1 hf3_0 2 rfl (by kernel_rfl) (c := c3_2) rfl)
    obtain ⟨a3_3, rfl, wf3_3⟩ := inv_int Try.underlying2 (fld1 hf3 1 rfl (by kernel_rfl) (c := c3_3) rfl)
    have b3_3 := treeUnion_i64 wf3_3
    obtain ⟨a3_4, rfl, wf3_4⟩ := inv_int Try.underlying2 (fld1 hf3 2 rfl (by kernel_rfl) (c := c3_4) rfl)
    have b3_4 := treeUnion_i64 wf3_4
    obtain ⟨fuel1, hr1⟩ := Reads.some_ rd1
    obtain _ | fuel1 := fuel1
    · exact hr1.zero.elim
    obtain ⟨q1, n1, k1, l1, e1, r1, p1, -⟩ := open_list (n := 5) SN.cells _ (by kernel_rfl) (by decide) SN.len Try.underlying30 (fun xs hx => open_SN hx) hr1
    obtain ⟨fuel2, hr2⟩ := Reads.some_ rd2
    obtain _ | fuel2 := fuel2
    · exact hr2.zero.elim
    obtain ⟨q2, n2, k2, l2, e2, r2, p2, -⟩ := open_list (n := 5) SN.cells _ (by kernel_rfl) (by decide) SN.len Try.underlying30 (fun xs hx => open_SN hx) hr2
    exact law_calls ((fnTreeUnion (hp W) _ _ _ l1 l2 ⟨a3_0, a3_1, a3_2, a3_3, a3_4⟩ r1 r2).mono fun v post h => h.1)
theorem treeUnion_holds : Rows.FnTreeUnionSaid :=
  OpenClaim.holds_of_wide 8 Try.f8 rfl rfl rfl rfl rfl rfl rfl ⟨rfl, rfl, rfl, rfl, rfl⟩ rfl rfl rfl rfl rfl (by kernel_rfl) Try.func8 (by kernel_rfl)
    (of_decide_eq_true (by kernel_rfl)) (by unfold Func.isWrapper; rw [if_neg (of_decide_eq_false (by kernel_rfl))]; exact ⟨rfl, rfl⟩)
    (fun os started H enc _ => treeUnion_lifted os started H enc)
#print axioms treeUnion_holds
end Go.Proofs.Ytlnihndjepjagaa
