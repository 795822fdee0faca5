/- What a law's arguments hold, out of their reading as data: lists of records. -/
import Derived.Test.YtlnihndjepjagaaGwL
import Derived.Test.YtlnihndjepjagaaGwM
set_option linter.unusedVariables false
set_option linter.unusedSimpArgs false
namespace Go.Proofs.Ytlnihndjepjagaa.Gw
open Go Go.RowKit Go.ChangeShapes Go.WideShapes Go.ChangeAt
section
variable {H : Type} {enc : TypeId × Value → H} {P : Program} {w : World} {base : Nat} {spare : Nat → Bool} {held : Bool} {t : TypeId} {fuel n : Nat} {cs : List Value} {c : Value}
/-- These cells read as a value of type t, with so much fuel. -/
def ReadsF (enc : TypeId × Value → H) (P : Program) (w : World) (base : Nat) (spare : Nat → Bool) (held : Bool) (fuel : Nat) (t : TypeId) (cs : List Value) : Prop := ∃ y, DataW.trod enc P w base spare held fuel t cs = some y
theorem ReadsF.reads (h : ReadsF enc P w base spare held fuel t cs) : Reads enc P w base spare held t cs := ⟨fuel, h⟩
theorem Reads.some_ (h : Reads enc P w base spare held t cs) : ∃ fuel, ReadsF enc P w base spare held fuel t cs := h
theorem ReadsF.zero (h : ReadsF enc P w base spare held 0 t cs) : False := by
  obtain ⟨y, h⟩ := h
  simp [DataW.trod] at h
theorem inv_structF {fs : Array Field} (hu : P.underlying t = some (.struct fs)) (h : ReadsF enc P w base spare held (fuel + 1) t cs) :
    cs.length = P.cellsOf t ∧ ∀ (i : Nat) (f : Field), fs[i]? = some f → ReadsF enc P w base spare held fuel f.type ((cs.drop f.offset).take (P.cellsOf f.type)) := by
  obtain ⟨y, h⟩ := h
  unfold DataW.trod at h
  rw [hu] at h
  dsimp only at h
  split at h
  · rename_i hl
    refine ⟨hl, fun i f hi => ?_⟩
    cases hm : (fs.toList.mapM fun f => DataW.trod enc P w base spare held fuel f.type ((cs.drop f.offset).take (P.cellsOf f.type))) with
    | none => rw [hm] at h; cases h
    | some r =>
      obtain ⟨y, hy⟩ := mapM_all hm f (by simpa using Array.mem_of_getElem? hi)
      exact ⟨y, hy⟩
  · cases h
theorem fld1F {fs : Array Field} (hf : ∀ (i : Nat) (f : Field), fs[i]? = some f → ReadsF enc P w base spare held fuel f.type ((cs.drop f.offset).take (P.cellsOf f.type))) (i : Nat) {f : Field} (hi : fs[i]? = some f)
    (hC : P.cellsOf f.type = 1) (hc : cs[f.offset]? = some c) : ReadsF enc P w base spare held fuel f.type [c] := by
  have := hf i f hi
  rw [hC] at this
  have e : (cs.drop f.offset).take 1 = [c] := by
    rw [List.take_one, List.head?_drop, hc]
    rfl
  rwa [e] at this
theorem inv_sliceF {e : TypeId} (hu : P.underlying t = some (.slice e)) (h : ReadsF enc P w base spare held (fuel + 1) t [c]) :
    c = .slice none 0 0 ∨ ∃ a len cap, c = .slice (some a) len cap ∧ len ≤ cap ∧ cap ≤ maxLen ∧ ∀ i, i < len → ∃ xs, w.cells? base (a.add (i * P.cellsOf e)) (P.cellsOf e) = some xs ∧ ReadsF enc P w base spare held fuel e xs := by
  obtain ⟨y, h⟩ := h
  unfold DataW.trod at h
  rw [hu] at h
  split at h
  all_goals (first | (rename_i h1 h2; cases h1; done) | (rename_i h1; cases h1; done) | (cases h; done) | skip)
  · rename_i h1 h2
    simp only [List.cons.injEq, and_true] at h2
    exact .inl h2
  · rename_i e' a len cap h1 h2
    simp only [Option.some.injEq, TypeDesc.slice.injEq] at h1
    subst h1
    simp only [List.cons.injEq, and_true] at h2
    subst h2
    refine .inr ⟨a, len, cap, rfl, ?_⟩
    dsimp only at h
    split at h
    · rename_i hb
      refine ⟨hb.2.1, hb.2.2, fun i hi => ?_⟩
      rw [Option.bind_eq_some_iff] at h
      obtain ⟨elems, he, _⟩ := h
      obtain ⟨z, hz⟩ := mapM_all he i (List.mem_range.2 hi)
      rw [Option.bind_eq_some_iff] at hz
      obtain ⟨xs, h3, h4⟩ := hz
      exact ⟨xs, h3, z, h4⟩
    · cases h
theorem mapM_idx {α : Type} {f : Nat → Option α} : ∀ {n : Nat} {r : List α}, (List.range n).mapM f = some r → ∀ (i : Nat) (u : α), r[i]? = some u → f i = some u := by
  have gen : ∀ (l : List Nat) (r : List α), l.mapM f = some r → ∀ (i : Nat) (u : α), r[i]? = some u → ∃ j, l[i]? = some j ∧ f j = some u := by
    intro l
    induction l with
    | nil =>
      intro r h i u hi
      rw [List.mapM_nil] at h
      cases h
      simp at hi
    | cons a l ih =>
      intro r h i u hi
      rw [List.mapM_cons] at h
      cases ha : f a with
      | none => rw [ha] at h; cases h
      | some b =>
        rw [ha] at h
        cases hl : l.mapM f with
        | none => rw [hl] at h; cases h
        | some bs =>
          rw [hl] at h
          cases h
          cases i with
          | zero => exact ⟨a, rfl, by simpa using ha.trans (by simpa using hi)⟩
          | succ i =>
            obtain ⟨j, h1, h2⟩ := ih bs hl i u (by simpa using hi)
            exact ⟨j, by simpa using h1, h2⟩
  intro n r h i u hi
  obtain ⟨j, h1, h2⟩ := gen _ _ h i u hi
  have hj := List.getElem?_eq_some_iff.1 h1
  obtain ⟨hl, he⟩ := hj
  simp at he
  subst he
  exact h2
theorem cell_block {a : Addr} {m : Nat} {u : Value} (h : w.cell? (a.add m) = some u) : ∃ cs T fr, hp w a.block = some (.cells cs T fr) ∧ cs[a.off + m]? = some u ∧ (m = 0 → a.spot = none) := by
  unfold World.cell? at h
  have hb : (a.add m).block = a.block := by unfold Addr.add; split <;> rfl
  have ho : (a.add m).off = a.off + m := by
    unfold Addr.add
    split
    · rename_i h0; subst h0; rfl
    · rfl
  rw [hb, ho] at h
  split at h
  · rename_i cs T fr he
    split at h
    · cases h
    · rename_i hs
      refine ⟨cs, T, fr, he, h, fun h0 => ?_⟩
      subst h0
      simp [Addr.add] at hs
      exact hs
  · cases h
/-- The cells of a slice's elements, as records. -/
theorem open_list {α : Type} (F : α → List Value) (PP : α → Prop) {e : TypeId} (hn : P.cellsOf e = n) (hpos : 0 < n) (hF : ∀ x, (F x).length = n) (hu : P.underlying t = some (.slice e))
    (hel : ∀ xs, ReadsF enc P w base spare held fuel e xs → ∃ x, xs = F x ∧ PP x) (h : ReadsF enc P w base spare held (fuel + 1) t [c]) :
    ∃ (a : Option Addr) (len cap : Nat) (l : List α), c = .slice a len cap ∧ RS (hp w) n c l.length (l.flatMap F) ∧ (∀ x ∈ l, PP x) ∧ l.length ≤ maxLen := by
  rcases inv_sliceF hu h with rfl | ⟨a, len, cap, rfl, h1, h2, h3⟩
  · exact ⟨none, 0, 0, [], rfl, RS.nil _ _, fun x hx => (by cases hx), Nat.zero_le _⟩
  · subst hn
    have hx : ∀ i : Fin len, ∃ x, w.cells? base (a.add (i * P.cellsOf e)) (P.cellsOf e) = some (F x) ∧ PP x := fun i => by
      obtain ⟨xs, e1, e2⟩ := h3 i i.2
      obtain ⟨x, rfl, hp⟩ := hel xs e2
      exact ⟨x, e1, hp⟩
    have hl : ∃ l : List α, l.length = len ∧ ∀ i x, l[i]? = some x → w.cells? base (a.add (i * P.cellsOf e)) (P.cellsOf e) = some (F x) ∧ PP x := by
      refine ⟨List.ofFn fun i : Fin len => Classical.choose (hx i), List.length_ofFn, fun i x hi => ?_⟩
      rw [List.getElem?_ofFn] at hi
      split at hi
      · rename_i hlt
        cases hi
        exact Classical.choose_spec (hx ⟨i, hlt⟩)
      · cases hi
    obtain ⟨l, rfl, hl⟩ := hl
    refine ⟨some a, l.length, cap, l, rfl, ⟨fm_len hF l, some a, cap, rfl, h1, fun hm => ?_⟩, fun x hx => ?_, Nat.le_trans h1 h2⟩
    · have key : ∀ k x, l[k]? = some x → ∀ i u, (F x)[i]? = some u → ∃ cs T fr, hp w a.block = some (.cells cs T fr) ∧ cs[a.off + (k * P.cellsOf e + i)]? = some u ∧ (k * P.cellsOf e + i = 0 → a.spot = none) := by
        intro k x hk i u hi
        have hc := (hl k x hk).1
        unfold World.cells? at hc
        split at hc
        · have hc := mapM_idx hc i u hi
          by_cases hi0 : i = 0
          · subst hi0
            have : (a.add (k * P.cellsOf e)).add 0 = a.add (k * P.cellsOf e + 0) := by simp [Addr.add]
            rw [this] at hc
            exact cell_block hc
          · have : (a.add (k * P.cellsOf e)).add i = a.add (k * P.cellsOf e + i) := by
              by_cases hk0 : k * P.cellsOf e = 0
              · rw [hk0]; simp [Addr.add]
              · simp [Addr.add, hi0, hk0, Nat.add_assoc]
            rw [this] at hc
            exact cell_block hc
        · cases hc
      obtain ⟨b, off, spot⟩ := a
      have h0 : spot = none := by
        obtain ⟨x, hx0, _⟩ := elem_at l 0 hm
        have hlen := hF x
        obtain ⟨cs, T, fr, _, _, e3⟩ := key 0 x hx0 0 _ (List.getElem?_eq_getElem (by omega))
        exact e3 (by simp)
      subst h0
      refine ⟨b, off, rfl, fun j u hj => ?_⟩
      have hjl : j < (l.flatMap F).length := (List.getElem?_eq_some_iff.1 hj).1
      rw [fm_len hF] at hjl
      have hk : j / P.cellsOf e < l.length := Nat.div_lt_of_lt_mul (by rwa [Nat.mul_comm] at hjl)
      obtain ⟨x, hkx, _⟩ := elem_at l _ hk
      have hi : j % P.cellsOf e < (F x).length := by rw [hF]; exact Nat.mod_lt _ hpos
      have hdm : j / P.cellsOf e * P.cellsOf e + j % P.cellsOf e = j := by rw [Nat.mul_comm]; exact Nat.div_add_mod _ _
      have e1 := fm_cell hF hkx (List.getElem?_eq_getElem hi)
      rw [hdm, hj] at e1
      obtain ⟨cs, T, fr, e2, e3, _⟩ := key _ x hkx _ _ (List.getElem?_eq_getElem hi)
      rw [hdm] at e3
      exact ⟨cs, T, fr, e2, by rw [e3, ← e1]⟩
    · obtain ⟨i, hi, rfl⟩ := List.getElem_of_mem hx
      exact (hl i _ (List.getElem?_eq_getElem hi)).2
end
end Go.Proofs.Ytlnihndjepjagaa.Gw
