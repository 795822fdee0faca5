/- Proved: of puts and deletes alone, without transactions among them, it does not matter in which order they stand. For every input; no condition is added. -/
import Derived.Test.YtlnihndjepjagaaRows
import Derived.Lib.SmallJoins
import Derived.Test.YtlnihndjepjagaaOf6
set_option linter.unusedVariables false
set_option linter.unusedSimpArgs false
namespace Go.Proofs.Ytlnihndjepjagaa
open Go Go.RowKit Go.ChangeShapes Go.WideShapes Go.ChangeAt Go.Joins Gw
theorem overlapsFlat_own : ownKnob Try.prog.godebug = none := by kernel_rfl
theorem overlapsFlat_laidOut : laidOutB Try.prog = true := by kernel_rfl
theorem overlapsFlat_i64 {a : Int} (h : (Lit.int .i64 a).wf = true) : -9223372036854775808 ≤ a ∧ a < 9223372036854775808 := by
  simp only [Lit.wf, IntKind.min, IntKind.max, IntKind.signed, IntKind.bits, Bool.and_eq_true, decide_eq_true_eq, if_true] at h
  omega
theorem bt25 : Try.prog.bytesOf 25 = 208 := by kernel_rfl
theorem bt98 : Try.prog.bytesOf 98 = 80 := by kernel_rfl
section
variable {H : Type} {enc : TypeId × Value → H} {w : World} {base : Nat} {spare : Nat → Bool} {held : Bool}
theorem inv_stringB {P : Program} {t : TypeId} {fuel : Nat} {c : Value} (hu : P.underlying t = some .string) (h : ReadsB enc P w base spare held fuel t [c]) : ∃ s : ByteArray, c = .string s ∧ s.size ≤ reachBytes := by
  obtain ⟨s, rfl, -⟩ := inv_string hu h.reads
  refine ⟨s, rfl, ?_⟩
  obtain ⟨y, h, hw⟩ := h
  cases fuel with
  | zero => simp [DataW.trod] at h
  | succ m =>
    unfold DataW.trod at h
    rw [hu] at h
    dsimp only at h
    split at h
    · cases h
      have := hw s.data.toList.length (by unfold DataW.weights; exact List.mem_singleton.2 rfl)
      simpa using this
    · cases h
set_option maxRecDepth 100000 in
theorem cmp_open {fuel : Nat} {xs : List Value} (h : ReadsB enc Try.prog w base spare held fuel 98 xs) : ∃ x : CM, xs = x.cells ∧ True := by
  obtain _ | fuel := fuel
  · exact h.zero.elim
  obtain ⟨hl, hf⟩ := inv_structB Try.underlying98 h
  have hl : xs.length = 7 := hl.trans (by kernel_rfl)
  obtain ⟨c0, c1, c2, c3, c4, c5, c6, rfl⟩ : ∃ c0 c1 c2 c3 c4 c5 c6, xs = [c0, c1, c2, c3, c4, c5, c6] := by
    match xs, hl with
    | [c0, c1, c2, c3, c4, c5, c6], _ => exact ⟨c0, c1, c2, c3, c4, c5, c6, rfl⟩
  obtain ⟨a0, rfl, -⟩ := inv_int Try.underlying3 (fld1B hf 0 rfl (by kernel_rfl) (c := c0) rfl).reads
  obtain ⟨a1, rfl, -⟩ := inv_int Try.underlying3 (fld1B hf 1 rfl (by kernel_rfl) (c := c1) rfl).reads
  obtain ⟨a2, rfl, -⟩ := inv_string Try.underlying9 (fld1B hf 2 rfl (by kernel_rfl) (c := c2) rfl).reads
  obtain ⟨a3, rfl, -⟩ := inv_string Try.underlying9 (fld1B hf 3 rfl (by kernel_rfl) (c := c3) rfl).reads
  obtain ⟨a4, rfl, -⟩ := inv_int Try.underlying2 (fld1B hf 4 rfl (by kernel_rfl) (c := c4) rfl).reads
  obtain ⟨a5, rfl, -⟩ := inv_string Try.underlying9 (fld1B hf 5 rfl (by kernel_rfl) (c := c5) rfl).reads
  obtain ⟨a6, rfl⟩ := inv_bool Try.underlying4 (fld1B hf 6 rfl (by kernel_rfl) (c := c6) rfl).reads
  exact ⟨⟨a0, a1, a2, a3, a4, a5, a6⟩, rfl, trivial⟩
set_option maxRecDepth 100000 in
theorem req_open : ∀ (fuel : Nat) {xs : List Value}, ReadsB enc Try.prog w base spare held fuel 25 xs → ∃ x : RT, xs = x.cells ∧ (RAt (hp w) x ∧ x.q.key.size ≤ 1000000000000000) := by
  intro fuel
  induction fuel using Nat.strongRecOn with
  | ind fuel ih =>
  intro xs h
  obtain _ | fuel := fuel
  · exact h.zero.elim
  obtain ⟨hl, hf⟩ := inv_structB Try.underlying25 h
  have hl : xs.length = 21 := hl.trans (by kernel_rfl)
  obtain ⟨c0, c1, c2, c3, c4, c5, c6, c7, c8, c9, c10, c11, c12, c13, c14, c15, c16, c17, c18, c19, c20, rfl⟩ : ∃ c0 c1 c2 c3 c4 c5 c6 c7 c8 c9 c10 c11 c12 c13 c14 c15 c16 c17 c18 c19 c20, xs = [c0, c1, c2, c3, c4, c5, c6, c7, c8, c9, c10, c11, c12, c13, c14, c15, c16, c17, c18, c19, c20] := by
    match xs, hl with
    | [c0, c1, c2, c3, c4, c5, c6, c7, c8, c9, c10, c11, c12, c13, c14, c15, c16, c17, c18, c19, c20], _ => exact ⟨c0, c1, c2, c3, c4, c5, c6, c7, c8, c9, c10, c11, c12, c13, c14, c15, c16, c17, c18, c19, c20, rfl⟩
  obtain ⟨a0, rfl, -⟩ := inv_int Try.underlying3 (fld1B hf 0 rfl (by kernel_rfl) (c := c0) rfl).reads
  obtain ⟨a1, rfl, w1⟩ := inv_stringB Try.underlying9 (fld1B hf 1 rfl (by kernel_rfl) (c := c1) rfl)
  obtain ⟨a2, rfl, -⟩ := inv_string Try.underlying9 (fld1B hf 2 rfl (by kernel_rfl) (c := c2) rfl).reads
  obtain ⟨a3, rfl, -⟩ := inv_string Try.underlying9 (fld1B hf 3 rfl (by kernel_rfl) (c := c3) rfl).reads
  obtain ⟨a4, rfl, -⟩ := inv_int Try.underlying2 (fld1B hf 4 rfl (by kernel_rfl) (c := c4) rfl).reads
  obtain ⟨a5, rfl, -⟩ := inv_int Try.underlying2 (fld1B hf 5 rfl (by kernel_rfl) (c := c5) rfl).reads
  obtain ⟨a6, rfl, -⟩ := inv_int Try.underlying2 (fld1B hf 6 rfl (by kernel_rfl) (c := c6) rfl).reads
  obtain ⟨a7, rfl, -⟩ := inv_int Try.underlying3 (fld1B hf 7 rfl (by kernel_rfl) (c := c7) rfl).reads
  obtain ⟨a8, rfl, -⟩ := inv_int Try.underlying3 (fld1B hf 8 rfl (by kernel_rfl) (c := c8) rfl).reads
  obtain ⟨a9, rfl, -⟩ := inv_int Try.underlying2 (fld1B hf 9 rfl (by kernel_rfl) (c := c9) rfl).reads
  obtain ⟨a10, rfl, -⟩ := inv_int Try.underlying2 (fld1B hf 10 rfl (by kernel_rfl) (c := c10) rfl).reads
  obtain ⟨a11, rfl, -⟩ := inv_int Try.underlying2 (fld1B hf 11 rfl (by kernel_rfl) (c := c11) rfl).reads
  obtain ⟨a12, rfl, -⟩ := inv_int Try.underlying2 (fld1B hf 12 rfl (by kernel_rfl) (c := c12) rfl).reads
  obtain ⟨a13, rfl⟩ := inv_bool Try.underlying4 (fld1B hf 13 rfl (by kernel_rfl) (c := c13) rfl).reads
  obtain ⟨a14, rfl⟩ := inv_bool Try.underlying4 (fld1B hf 14 rfl (by kernel_rfl) (c := c14) rfl).reads
  obtain ⟨a15, rfl⟩ := inv_bool Try.underlying4 (fld1B hf 15 rfl (by kernel_rfl) (c := c15) rfl).reads
  obtain ⟨a16, rfl⟩ := inv_bool Try.underlying4 (fld1B hf 16 rfl (by kernel_rfl) (c := c16) rfl).reads
  obtain ⟨a17, rfl⟩ := inv_bool Try.underlying4 (fld1B hf 17 rfl (by kernel_rfl) (c := c17) rfl).reads
  have h18 := fld1B hf 18 rfl (by kernel_rfl) (c := c18) rfl
  have h19 := fld1B hf 19 rfl (by kernel_rfl) (c := c19) rfl
  have h20 := fld1B hf 20 rfl (by kernel_rfl) (c := c20) rfl
  obtain _ | fuel := fuel
  · exact h18.zero.elim
  obtain ⟨-, -, -, l18, -, r18, g18, b18⟩ := open_listB (n := 7) CM.cells (fun _ => True) (by kernel_rfl) (by decide) CM.len Try.underlying22 (fun xs hx => cmp_open hx) h18
  rw [bt98] at b18
  unfold reachBytes at b18
  obtain ⟨-, -, -, l19, -, r19, g19, b19⟩ := open_listB (n := 21) RT.cells (RAt (hp w)) (by kernel_rfl) (by decide) RT.len Try.underlying23 (fun xs hx => by obtain ⟨x, e, h⟩ := ih fuel (by omega) hx; exact ⟨x, e, h.1⟩) h19
  rw [bt25] at b19
  unfold reachBytes at b19
  obtain ⟨-, -, -, l20, -, r20, g20, b20⟩ := open_listB (n := 21) RT.cells (RAt (hp w)) (by kernel_rfl) (by decide) RT.len Try.underlying23 (fun xs hx => by obtain ⟨x, e, h⟩ := ih fuel (by omega) hx; exact ⟨x, e, h.1⟩) h20
  rw [bt25] at b20
  unfold reachBytes at b20
  unfold reachBytes at w1
  exact ⟨.mk ⟨a0, a1, a2, a3, a4, a5, a6, a7, a8, a9, a10, a11, a12, a13, a14, a15, a16, a17, c18, c19, c20⟩ l18 l19 l20, rfl, .mk _ r18 r19 r20 ⟨by show l18.length ≤ _; omega, by show l19.length ≤ _; omega, by show l20.length ≤ _; omega⟩ g19 g20, by show a1.size ≤ _; omega⟩
end
set_option maxRecDepth 100000 in
theorem overlapsFlat_lifted (os : Os) (started : os.Started) (H : Type) (enc : TypeId × Value → H) :
    ReturnsInHanded {} Try.checked os 4 .any (Rows.fnOverlapsFlatSpec.pre6 enc Try.prog Try.f4 [] false) (Rows.fnOverlapsFlatSpec.post enc Try.prog Try.f4 false true false false) := by
  refine law_lift (C := Try.checked) (tb := 4) overlapsFlat_own started (by kernel_rfl) Try.func4
    (ChangeSpec.witness6 (enc := enc) (C := Try.checked) false ⟨#[], #[(Value.slice none 0 0), (Value.slice none 0 0)], []⟩ 8 (by kernel_rfl) (by kernel_rfl) (by kernel_rfl) (by kernel_rfl))
    overlapsFlat_laidOut (by kernel_rfl) rfl rfl Try.underlying4 ?_ ?_
  · intro ds hd
    match ds, hd with
    | [d0, d1], _ => rfl
  · intro W base args ds before hval0 hA0 hsz
    have hval : ∀ (j : Nat) t v, Try.f4.params[j]? = some t → args[j]? = some v → Value.okWide Try.prog W .any base t v := hval0
    have hA : DataW.TrodAll enc Try.prog W 0 (fun _ => true) true Try.f4.params.toList args.toList ds before := hA0
    rw [Try.params4] at hA hval
    obtain ⟨v0, vs0, e0, ds0, p0, q0, hargs, rfl, rfl, h0, r0⟩ := trodAll_cons hA
    obtain ⟨v1, vs1, e1, ds1, p1, q1, rfl, rfl, rfl, h1, r1⟩ := trodAll_cons r0
    obtain ⟨rfl, rfl, rfl⟩ := trodAll_nil r1
    obtain rfl : args = #[v0, v1] := by apply Array.ext'; simpa using hargs
    have rd0 := reads_of_trod h0
    obtain ⟨sa0, sn0, sc0, rfl⟩ := okWide_slice Try.underlying23 (hval 0 23 v0 rfl rfl)
    have rd1 := reads_of_trod h1
    obtain ⟨sa1, sn1, sc1, rfl⟩ := okWide_slice Try.underlying35 (hval 1 35 v1 rfl rfl)
    obtain ⟨fuel0, hr0⟩ := readsB_of_trod (i := 0) h0 (ts := [23, 35]) rfl rfl hsz
    obtain _ | fuel0 := fuel0
    · exact hr0.zero.elim
    obtain ⟨-, -, -, l0, -, rs0, g0, b0⟩ := open_listB (n := 21) RT.cells (fun x => RAt (hp W) x ∧ x.q.key.size ≤ 1000000000000000) (by kernel_rfl) (by decide) RT.len Try.underlying23 (fun xs hx => req_open fuel0 hx) hr0
    rw [bt25] at b0
    unfold reachBytes at b0
    obtain ⟨fuel1, hr1⟩ := Reads.some_ rd1
    obtain _ | fuel1 := fuel1
    · exact hr1.zero.elim
    obtain ⟨-, -, -, l1, -, rs1, -, -⟩ := open_list (n := 1) (fun a : Int => [Value.int .i64 a]) (fun a : Int => (Lit.int .i64 a).wf = true) (by kernel_rfl) (by decide) (fun _ => rfl) Try.underlying35 (fun xs hx => elem_int Try.underlying3 hx) hr1
    rw [flatMap_one] at rs1
    exact law_calls ((fnOverlapsFlat (hp W) _ _ l0 l1 rs0 rs1 (fun y hy => (g0 y hy).1) (by omega) (fun y hy => (g0 y hy).2)).mono fun v post h => h.1)
theorem overlapsFlat_holds : Rows.FnOverlapsFlatSaid :=
  OpenClaim.holds_of_wide 4 Try.f4 rfl rfl rfl rfl rfl rfl rfl ⟨rfl, rfl, rfl, rfl, rfl⟩ rfl rfl rfl rfl rfl (by kernel_rfl) Try.func4 (by kernel_rfl)
    (of_decide_eq_true (by kernel_rfl)) (by unfold Func.isWrapper; rw [if_neg (of_decide_eq_false (by kernel_rfl))]; exact ⟨rfl, rfl⟩)
    (fun os started H enc _ => overlapsFlat_lifted os started H enc)
#print axioms overlapsFlat_holds
end Go.Proofs.Ytlnihndjepjagaa
