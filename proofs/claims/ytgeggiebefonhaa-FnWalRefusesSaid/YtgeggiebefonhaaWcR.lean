/- Proved: a record without a type is refused, and nothing is written of it; all others are written as if it were not there. For every input; no condition is added. -/
import Derived.Test.YtgeggiebefonhaaRows
import Derived.Test.YtgeggiebefonhaaGwL
import Derived.Test.YtgeggiebefonhaaWcE0
import Derived.Lib.SmallJoins
set_option linter.unusedVariables false
set_option linter.unusedSimpArgs false
namespace Go.Proofs.Ytgeggiebefonhaa
open Go Go.RowKit Go.ChangeShapes Go.WideShapes Go.ChangeAt Go.Joins Gw
theorem walRefuses_own : ownKnob Try.prog.godebug = none := by kernel_rfl
theorem walRefuses_laidOut : laidOutB Try.prog = true := by kernel_rfl
theorem walRefuses_i64 {a : Int} (h : (Lit.int .i64 a).wf = true) : -9223372036854775808 ≤ a ∧ a < 9223372036854775808 := by
  simp only [Lit.wf, IntKind.min, IntKind.max, IntKind.signed, IntKind.bits, Bool.and_eq_true, decide_eq_true_eq, if_true] at h
  omega
section
variable {H : Type} {enc : TypeId × Value → H} {w : World} {base : Nat} {spare : Nat → Bool} {held : Bool}
set_option maxRecDepth 100000 in
theorem open_WR {fuel : Nat} {xs : List Value} (h : ReadsF enc Try.prog w base spare held fuel 63 xs) : ∃ x : WR, xs = x.cells ∧ ((Lit.int .i64 x.type_).wf = true ∧ (Lit.int .u32 x.crc).wf = true ∧ x.data.size ≤ maxLen) := by
  obtain _ | fuel := fuel
  · exact h.zero.elim
  obtain ⟨hl0, hf0⟩ := inv_structF Try.underlying63 h
  have hl0 : xs.length = 6 := hl0.trans (by kernel_rfl)
  obtain ⟨c0, c1, c2, c3, c4, c5, rfl⟩ : ∃ c0 c1 c2 c3 c4 c5, xs = [c0, c1, c2, c3, c4, c5] := by
    match xs, hl0 with
    | [c0, c1, c2, c3, c4, c5], _ => exact ⟨c0, c1, c2, c3, c4, c5, rfl⟩
  obtain ⟨a0, rfl, w0⟩ := inv_int Try.underlying2 (fld1F hf0 0 rfl (by kernel_rfl) (c := c0) rfl).reads
  obtain ⟨a1, rfl⟩ := inv_bool Try.underlying4 (fld1F hf0 1 rfl (by kernel_rfl) (c := c1) rfl).reads
  obtain ⟨a2, rfl, w2⟩ := inv_int Try.underlying46 (fld1F hf0 2 rfl (by kernel_rfl) (c := c2) rfl).reads
  obtain ⟨a3, rfl⟩ := inv_bool Try.underlying4 (fld1F hf0 3 rfl (by kernel_rfl) (c := c3) rfl).reads
  obtain ⟨a4, rfl, w4⟩ := inv_string Try.underlying9 (fld1F hf0 4 rfl (by kernel_rfl) (c := c4) rfl).reads
  obtain ⟨a5, rfl⟩ := inv_bool Try.underlying4 (fld1F hf0 5 rfl (by kernel_rfl) (c := c5) rfl).reads
  exact ⟨⟨a0, a1, a2, a3, a4, a5⟩, rfl, ⟨w0, w2, w4⟩⟩
end
set_option maxRecDepth 100000 in
theorem walRefuses_lifted (os : Os) (started : os.Started) (H : Type) (enc : TypeId × Value → H) :
    ReturnsInHanded {} Try.checked os 6 .any (Rows.fnWalRefusesSpec.pre6 enc Try.prog Try.f6 [] false) (Rows.fnWalRefusesSpec.post enc Try.prog Try.f6 false true false false) := by
  refine law_lift (C := Try.checked) (tb := 4) walRefuses_own started (by kernel_rfl) Try.func6
    (ChangeSpec.witness6 (enc := enc) (C := Try.checked) false ⟨#[], #[(Value.int .u32 0), (Value.int .i64 0), (Value.slice none 0 0), (Value.slice none 0 0)], []⟩ 8 (by kernel_rfl) (by kernel_rfl) (by kernel_rfl) (by kernel_rfl))
    walRefuses_laidOut (by kernel_rfl) rfl rfl Try.underlying4 ?_ ?_
  · intro ds hd
    match ds, hd with
    | [d0, d1, d2, d3], _ => rfl
  · intro W base args ds before hval0 hA0 hsz
    have hval : ∀ (j : Nat) t v, Try.f6.params[j]? = some t → args[j]? = some v → Value.okWide Try.prog W .any base t v := hval0
    have hA : DataW.TrodAll enc Try.prog W 0 (fun _ => true) true Try.f6.params.toList args.toList ds before := hA0
    rw [Try.params6] at hA hval
    obtain ⟨v0, vs0, e0, ds0, p0, q0, hargs, rfl, rfl, h0, r0⟩ := trodAll_cons hA
    obtain ⟨v1, vs1, e1, ds1, p1, q1, rfl, rfl, rfl, h1, r1⟩ := trodAll_cons r0
    obtain ⟨v2, vs2, e2, ds2, p2, q2, rfl, rfl, rfl, h2, r2⟩ := trodAll_cons r1
    obtain ⟨v3, vs3, e3, ds3, p3, q3, rfl, rfl, rfl, h3, r3⟩ := trodAll_cons r2
    obtain ⟨rfl, rfl, rfl⟩ := trodAll_nil r3
    obtain rfl : args = #[v0, v1, v2, v3] := by apply Array.ext'; simpa using hargs
    obtain ⟨a0, rfl, rfl, rfl, wf0⟩ := open_int Try.underlying46 (hval 0 46 v0 rfl rfl) h0
    obtain ⟨a1, rfl, rfl, rfl, wf1⟩ := open_int Try.underlying3 (hval 1 3 v1 rfl rfl) h1
    have b1 := walRefuses_i64 wf1
    have rd2 := reads_of_trod h2
    obtain ⟨sa2, sn2, sc2, rfl⟩ := okWide_slice Try.underlying49 (hval 2 49 v2 rfl rfl)
    have rd3 := reads_of_trod h3
    obtain ⟨sa3, sn3, sc3, rfl⟩ := okWide_slice Try.underlying60 (hval 3 60 v3 rfl rfl)
    obtain ⟨fuel2, hr2⟩ := Reads.some_ rd2
    obtain _ | fuel2 := fuel2
    · exact hr2.zero.elim
    obtain ⟨q2, n2, k2, l2, e2, r2, p2, -⟩ := open_list (n := 6) WR.cells _ (by kernel_rfl) (by decide) WR.len Try.underlying49 (fun xs hx => open_WR hx) hr2
    obtain ⟨fuel3, hr3⟩ := Reads.some_ rd3
    obtain _ | fuel3 := fuel3
    · exact hr3.zero.elim
    obtain ⟨q3, n3, k3, l3, e3, r3, p3, -⟩ := open_list (n := 1) (fun a : Int => [Value.int .i64 a]) (fun a : Int => (Lit.int .i64 a).wf = true) (by kernel_rfl) (by decide) (fun _ => rfl) Try.underlying60 (fun xs hx => elem_int Try.underlying3 hx) hr3
    rw [flatMap_one] at r3
    have r3 : RS (hp W) 1 _ l3.length (l3.map (Value.int .i64)) := r3
    exact law_calls ((fnWalRefuses (hp W) _ _ _ _ l2 l3 r2 r3 (fun x hx => by have := walRefuses_i64 (p3 x hx); omega)).mono fun v post h => h.1)
theorem walRefuses_holds : Rows.FnWalRefusesSaid :=
  OpenClaim.holds_of_wide 6 Try.f6 rfl rfl rfl rfl rfl rfl rfl ⟨rfl, rfl, rfl, rfl, rfl⟩ rfl rfl rfl rfl rfl (by kernel_rfl) Try.func6 (by kernel_rfl)
    (of_decide_eq_true (by kernel_rfl)) (by unfold Func.isWrapper; rw [if_neg (of_decide_eq_false (by kernel_rfl))]; exact ⟨rfl, rfl⟩)
    (fun os started H enc _ => walRefuses_lifted os started H enc)
#print axioms walRefuses_holds
end Go.Proofs.Ytgeggiebefonhaa
