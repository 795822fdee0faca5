/- What a law's arguments hold, out of their reading as data. -/
import Derived.Test.YtlnihndjepjagaaGwH
import Derived.Test.YtlnihndjepjagaaGwJ
set_option linter.unusedVariables false
set_option linter.unusedSimpArgs false
namespace Go.Proofs.Ytlnihndjepjagaa.Gw
open Go Go.RowKit Go.ChangeShapes Go.WideShapes Go.ChangeAt
section
variable {H : Type} {enc : TypeId × Value → H} {P : Program} {w : World} {base : Nat} {spare : Nat → Bool} {held : Bool} {t : TypeId} {fuel n : Nat} {cs : List Value} {c : Value}
/-- These cells read as a value of type t. -/
def Reads (enc : TypeId × Value → H) (P : Program) (w : World) (base : Nat) (spare : Nat → Bool) (held : Bool) (t : TypeId) (cs : List Value) : Prop := ∃ fuel y, DataW.trod enc P w base spare held fuel t cs = some y
theorem inv_int {k : IntKind} (hu : P.underlying t = some (.int k)) (h : Reads enc P w base spare held t [c]) : ∃ a, c = .int k a ∧ (Lit.int k a).wf = true := by
  obtain ⟨fuel, y, h⟩ := h
  obtain ⟨a, e, _, wf⟩ := DataW.trod_int hu h
  simp at e
  exact ⟨a, e, wf⟩
theorem inv_bool (hu : P.underlying t = some .bool) (h : Reads enc P w base spare held t [c]) : ∃ a, c = .bool a := by
  obtain ⟨fuel, y, h⟩ := h
  cases fuel with
  | zero => simp [DataW.trod] at h
  | succ m =>
    unfold DataW.trod at h
    rw [hu] at h
    split at h <;> simp_all
theorem inv_string (hu : P.underlying t = some .string) (h : Reads enc P w base spare held t [c]) : ∃ s : ByteArray, c = .string s ∧ s.size ≤ maxLen := by
  obtain ⟨fuel, y, h⟩ := h
  cases fuel with
  | zero => simp [DataW.trod] at h
  | succ m =>
    unfold DataW.trod at h
    rw [hu] at h
    split at h <;> simp_all
theorem inv_struct {fs : Array Field} (hu : P.underlying t = some (.struct fs)) (h : Reads enc P w base spare held t cs) :
    cs.length = P.cellsOf t ∧ ∀ (i : Nat) (f : Field), fs[i]? = some f → Reads enc P w base spare held f.type ((cs.drop f.offset).take (P.cellsOf f.type)) := by
  obtain ⟨fuel, y, h⟩ := h
  obtain ⟨xs, m, _, _, hl, hlen, hf⟩ := DataW.trod_struct hu h
  refine ⟨hl, fun i f hi => ?_⟩
  have hi' : i < fs.size := (Array.getElem?_eq_some_iff.1 hi).1
  exact ⟨m, xs[i], by rw [hf i f hi]; exact List.getElem?_eq_getElem (by omega)⟩
theorem fld1 {fs : Array Field} (hf : ∀ (i : Nat) (f : Field), fs[i]? = some f → Reads enc P w base spare held f.type ((cs.drop f.offset).take (P.cellsOf f.type))) (i : Nat) {f : Field} (hi : fs[i]? = some f)
    (hC : P.cellsOf f.type = 1) (hc : cs[f.offset]? = some c) : Reads enc P w base spare held f.type [c] := by
  have := hf i f hi
  rw [hC] at this
  have e : (cs.drop f.offset).take 1 = [c] := by
    have hl := (List.getElem?_eq_some_iff.1 hc)
    obtain ⟨hl, he⟩ := hl
    rw [List.take_one, List.head?_drop, hc]
    rfl
  rwa [e] at this
theorem mapM_all {α β : Type} {f : α → Option β} : ∀ {l : List α} {r : List β}, l.mapM f = some r → ∀ x ∈ l, ∃ y, f x = some y
  | [], _, _, x, hx => by cases hx
  | a :: l, r, h, x, hx => by
    rw [List.mapM_cons] at h
    cases ha : f a with
    | none => rw [ha] at h; cases h
    | some b =>
      rw [ha] at h
      cases hl : l.mapM f with
      | none => rw [hl] at h; cases h
      | some bs =>
        rcases List.mem_cons.1 hx with rfl | hx
        · exact ⟨b, ha⟩
        · exact mapM_all hl x hx
theorem inv_slice {e : TypeId} (hu : P.underlying t = some (.slice e)) (h : Reads enc P w base spare held t [c]) :
    c = .slice none 0 0 ∨ ∃ a len cap, c = .slice (some a) len cap ∧ len ≤ cap ∧ cap ≤ maxLen ∧ ∀ i, i < len → ∃ xs, w.cells? base (a.add (i * P.cellsOf e)) (P.cellsOf e) = some xs ∧ Reads enc P w base spare held e xs := by
  obtain ⟨fuel, y, h⟩ := h
  cases fuel with
  | zero => simp [DataW.trod] at h
  | succ m =>
    unfold DataW.trod at h
    rw [hu] at h
    split at h
    all_goals (first | (rename_i h1 h2; cases h1; done) | (rename_i h1; cases h1; done) | (cases h; done) | skip)
    · rename_i h1 h2
      simp only [List.cons.injEq, and_true] at h2
      exact .inl h2
    · rename_i e' a len cap h1 h2
      simp only [Option.some.injEq, TypeDesc.slice.injEq] at h1
      subst h1
      simp only [List.cons.injEq, and_true] at h2
      subst h2
      refine .inr ⟨a, len, cap, rfl, ?_⟩
      dsimp only at h
      split at h
      · rename_i hb
        refine ⟨hb.2.1, hb.2.2, fun i hi => ?_⟩
        rw [Option.bind_eq_some_iff] at h
        obtain ⟨elems, he, _⟩ := h
        obtain ⟨z, hz⟩ := mapM_all he i (List.mem_range.2 hi)
        rw [Option.bind_eq_some_iff] at hz
        obtain ⟨xs, h3, h4⟩ := hz
        exact ⟨xs, h3, m, z, h4⟩
      · cases h
theorem reads_of_trod {v : Value} {d : DataW H} {ps : List MemPlace} (h : DataW.Trod enc P w base spare held t v d ps) : Reads enc P w base spare held t v.cells.toList := by
  obtain ⟨fuel, h⟩ := h
  exact ⟨fuel, _, h⟩
end
end Go.Proofs.Ytlnihndjepjagaa.Gw
