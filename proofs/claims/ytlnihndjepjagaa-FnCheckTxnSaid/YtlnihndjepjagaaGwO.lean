/- What a law's arguments hold, with what they weigh. -/
import Derived.Test.YtlnihndjepjagaaGwN
set_option linter.unusedVariables false
set_option linter.unusedSimpArgs false
namespace Go.Proofs.Ytlnihndjepjagaa.Gw
open Go Go.RowKit Go.ChangeShapes Go.WideShapes Go.ChangeAt
section
variable {H : Type} {enc : TypeId × Value → H} {P : Program} {w : World} {base : Nat} {spare : Nat → Bool} {held : Bool} {t : TypeId} {fuel n : Nat} {cs : List Value} {c : Value}
/-- These cells read as a value of type t, none of whose parts is heavier than what can be reached. -/
def ReadsB (enc : TypeId × Value → H) (P : Program) (w : World) (base : Nat) (spare : Nat → Bool) (held : Bool) (fuel : Nat) (t : TypeId) (cs : List Value) : Prop := ∃ y, DataW.trod enc P w base spare held fuel t cs = some y ∧ ∀ m ∈ y.1.weights P t, m ≤ reachBytes
theorem ReadsB.F (h : ReadsB enc P w base spare held fuel t cs) : ReadsF enc P w base spare held fuel t cs := by obtain ⟨y, h, _⟩ := h; exact ⟨y, h⟩
theorem ReadsB.reads (h : ReadsB enc P w base spare held fuel t cs) : Reads enc P w base spare held t cs := h.F.reads
theorem ReadsB.zero (h : ReadsB enc P w base spare held 0 t cs) : False := h.F.zero
theorem mapM_at {α β : Type} {f : α → Option β} : ∀ {l : List α} {r : List β}, l.mapM f = some r → ∀ (i : Nat) (x : α), l[i]? = some x → ∃ y, r[i]? = some y ∧ f x = some y
  | [], _, _, i, x, hx => by simp at hx
  | a :: l, r, h, i, x, hx => by
    rw [List.mapM_cons] at h
    cases ha : f a with
    | none => rw [ha] at h; cases h
    | some b =>
      rw [ha] at h
      cases hl : l.mapM f with
      | none => rw [hl] at h; cases h
      | some bs =>
        rw [hl] at h
        cases h
        cases i with
        | zero => simp at hx; subst hx; exact ⟨b, rfl, ha⟩
        | succ i =>
          obtain ⟨y, h1, h2⟩ := mapM_at hl i x (by simpa using hx)
          exact ⟨y, by simpa using h1, h2⟩
theorem mapM_len {α β : Type} {f : α → Option β} : ∀ {l : List α} {r : List β}, l.mapM f = some r → r.length = l.length
  | [], r, h => by rw [List.mapM_nil] at h; cases h; rfl
  | a :: l, r, h => by
    rw [List.mapM_cons] at h
    cases ha : f a with
    | none => rw [ha] at h; cases h
    | some b =>
      rw [ha] at h
      cases hl : l.mapM f with
      | none => rw [hl] at h; cases h
      | some bs =>
        rw [hl] at h
        cases h
        simp [mapM_len hl]
theorem weightsEach_at : ∀ {ts : List TypeId} {ds : List (DataW H)} {i : Nat} {t : TypeId} {d : DataW H}, ts[i]? = some t → ds[i]? = some d → ∀ m ∈ d.weights P t, m ∈ DataW.weightsEach P ts ds
  | [], _, i, t, d, h, _, m, _ => by simp at h
  | _ :: _, [], i, t, d, _, h, m, _ => by simp at h
  | t0 :: ts, d0 :: ds, 0, t, d, h1, h2, m, hm => by
    simp at h1 h2; subst h1; subst h2
    unfold DataW.weightsEach
    exact List.mem_append_left _ hm
  | t0 :: ts, d0 :: ds, i + 1, t, d, h1, h2, m, hm => by
    unfold DataW.weightsEach
    exact List.mem_append_right _ (weightsEach_at (by simpa using h1) (by simpa using h2) m hm)
theorem weightsAll_at : ∀ {ds : List (DataW H)} {i : Nat} {e : TypeId} {d : DataW H}, ds[i]? = some d → ∀ m ∈ d.weights P e, m ∈ DataW.weightsAll P e ds
  | [], i, e, d, h, m, _ => by simp at h
  | d0 :: ds, 0, e, d, h, m, hm => by
    simp at h; subst h
    unfold DataW.weightsAll
    exact List.mem_append_left _ hm
  | d0 :: ds, i + 1, e, d, h, m, hm => by
    unfold DataW.weightsAll
    exact List.mem_append_right _ (weightsAll_at (by simpa using h) m hm)
theorem inv_structB {fs : Array Field} (hu : P.underlying t = some (.struct fs)) (h : ReadsB enc P w base spare held (fuel + 1) t cs) :
    cs.length = P.cellsOf t ∧ ∀ (i : Nat) (f : Field), fs[i]? = some f → ReadsB enc P w base spare held fuel f.type ((cs.drop f.offset).take (P.cellsOf f.type)) := by
  obtain ⟨y, h, hw⟩ := h
  unfold DataW.trod at h
  rw [hu] at h
  dsimp only at h
  split at h
  · rename_i hl
    refine ⟨hl, fun i f hi => ?_⟩
    cases hm : (fs.toList.mapM fun f => DataW.trod enc P w base spare held fuel f.type ((cs.drop f.offset).take (P.cellsOf f.type))) with
    | none => rw [hm] at h; cases h
    | some r =>
      rw [hm] at h
      cases h
      obtain ⟨z, hz1, hz2⟩ := mapM_at hm i f (by simpa using hi)
      refine ⟨z, hz2, fun m hmm => hw m ?_⟩
      unfold DataW.weights
      rw [hu]
      exact weightsEach_at (i := i) (by simp [hi]) (by simp [hz1]) m hmm
  · cases h
theorem fld1B {fs : Array Field} (hf : ∀ (i : Nat) (f : Field), fs[i]? = some f → ReadsB enc P w base spare held fuel f.type ((cs.drop f.offset).take (P.cellsOf f.type))) (i : Nat) {f : Field} (hi : fs[i]? = some f)
    (hC : P.cellsOf f.type = 1) (hc : cs[f.offset]? = some c) : ReadsB enc P w base spare held fuel f.type [c] := by
  have := hf i f hi
  rw [hC] at this
  have e : (cs.drop f.offset).take 1 = [c] := by
    rw [List.take_one, List.head?_drop, hc]
    rfl
  rwa [e] at this
theorem inv_sliceB {e : TypeId} (hu : P.underlying t = some (.slice e)) (h : ReadsB enc P w base spare held (fuel + 1) t [c]) :
    c = .slice none 0 0 ∨ ∃ a len cap, c = .slice (some a) len cap ∧ len ≤ cap ∧ cap ≤ maxLen ∧ len * P.bytesOf e ≤ reachBytes ∧ ∀ i, i < len → ∃ xs, w.cells? base (a.add (i * P.cellsOf e)) (P.cellsOf e) = some xs ∧ ReadsB enc P w base spare held fuel e xs := by
  obtain ⟨y, h, hw⟩ := h
  unfold DataW.trod at h
  rw [hu] at h
  split at h
  all_goals (first | (rename_i h1 h2; cases h1; done) | (rename_i h1; cases h1; done) | (cases h; done) | skip)
  · rename_i h1 h2
    simp only [List.cons.injEq, and_true] at h2
    exact .inl h2
  · rename_i e' a len cap h1 h2
    simp only [Option.some.injEq, TypeDesc.slice.injEq] at h1
    subst h1
    simp only [List.cons.injEq, and_true] at h2
    subst h2
    refine .inr ⟨a, len, cap, rfl, ?_⟩
    dsimp only at h
    split at h
    · rename_i hb
      rw [Option.bind_eq_some_iff] at h
      obtain ⟨elems, he, h⟩ := h
      rw [Option.map_eq_some_iff] at h
      obtain ⟨rest, hr, rfl⟩ := h
      have hlen : elems.length = len := by
        have := mapM_len he
        simpa using this
      have hww : ∀ m ∈ ((elems.map (·.1)).length + (rest.map (·.1)).length) * P.bytesOf e :: (DataW.weightsAll P e (elems.map (·.1)) ++ DataW.weightsAll P e (rest.map (·.1))), m ≤ reachBytes := fun m hm => hw m (by
        unfold DataW.weights
        rw [hu]; exact hm)
      refine ⟨hb.2.1, hb.2.2, ?_, fun i hi => ?_⟩
      · have := hww _ (List.mem_cons_self ..)
        rw [List.length_map, hlen] at this
        exact Nat.le_trans (Nat.mul_le_mul_right _ (Nat.le_add_right _ _)) this
      · obtain ⟨z, hz1, hz⟩ := mapM_at he i i (by simp [hi])
        rw [Option.bind_eq_some_iff] at hz
        obtain ⟨xs, h3, h4⟩ := hz
        refine ⟨xs, h3, z, h4, fun m hm => hww m (List.mem_cons_of_mem _ (List.mem_append_left _ ?_))⟩
        exact weightsAll_at (i := i) (by simp [hz1]) m hm
    · cases h
/-- The cells of a slice's elements, as records. -/
theorem open_listB {α : Type} (F : α → List Value) (PP : α → Prop) {e : TypeId} (hn : P.cellsOf e = n) (hpos : 0 < n) (hF : ∀ x, (F x).length = n) (hu : P.underlying t = some (.slice e))
    (hel : ∀ xs, ReadsB enc P w base spare held fuel e xs → ∃ x, xs = F x ∧ PP x) (h : ReadsB enc P w base spare held (fuel + 1) t [c]) :
    ∃ (a : Option Addr) (len cap : Nat) (l : List α), c = .slice a len cap ∧ RS (hp w) n c l.length (l.flatMap F) ∧ (∀ x ∈ l, PP x) ∧ l.length * P.bytesOf e ≤ reachBytes := by
  rcases inv_sliceB hu h with rfl | ⟨a, len, cap, rfl, h1, h2, hb, h3⟩
  · exact ⟨none, 0, 0, [], rfl, RS.nil _ _, fun x hx => (by cases hx), by simp⟩
  · subst hn
    have hx : ∀ i : Fin len, ∃ x, w.cells? base (a.add (i * P.cellsOf e)) (P.cellsOf e) = some (F x) ∧ PP x := fun i => by
      obtain ⟨xs, e1, e2⟩ := h3 i i.2
      obtain ⟨x, rfl, hp⟩ := hel xs e2
      exact ⟨x, e1, hp⟩
    have hl : ∃ l : List α, l.length = len ∧ ∀ i x, l[i]? = some x → w.cells? base (a.add (i * P.cellsOf e)) (P.cellsOf e) = some (F x) ∧ PP x := by
      refine ⟨List.ofFn fun i : Fin len => Classical.choose (hx i), List.length_ofFn, fun i x hi => ?_⟩
      rw [List.getElem?_ofFn] at hi
      split at hi
      · rename_i hlt
        cases hi
        exact Classical.choose_spec (hx ⟨i, hlt⟩)
      · cases hi
    obtain ⟨l, rfl, hl⟩ := hl
    refine ⟨some a, l.length, cap, l, rfl, ⟨fm_len hF l, some a, cap, rfl, h1, fun hm => ?_⟩, fun x hx => ?_, hb⟩
    · have key : ∀ k x, l[k]? = some x → ∀ i u, (F x)[i]? = some u → ∃ cs T fr, hp w a.block = some (.cells cs T fr) ∧ cs[a.off + (k * P.cellsOf e + i)]? = some u ∧ (k * P.cellsOf e + i = 0 → a.spot = none) := by
        intro k x hk i u hi
        have hc := (hl k x hk).1
        unfold World.cells? at hc
        split at hc
        · have hc := mapM_idx hc i u hi
          by_cases hi0 : i = 0
          · subst hi0
            have : (a.add (k * P.cellsOf e)).add 0 = a.add (k * P.cellsOf e + 0) := by simp [Addr.add]
            rw [this] at hc
            exact cell_block hc
          · have : (a.add (k * P.cellsOf e)).add i = a.add (k * P.cellsOf e + i) := by
              by_cases hk0 : k * P.cellsOf e = 0
              · rw [hk0]; simp [Addr.add]
              · simp [Addr.add, hi0, hk0, Nat.add_assoc]
            rw [this] at hc
            exact cell_block hc
        · cases hc
      obtain ⟨b, off, spot⟩ := a
      have h0 : spot = none := by
        obtain ⟨x, hx0, _⟩ := elem_at l 0 hm
        have hlen := hF x
        obtain ⟨cs, T, fr, _, _, e3⟩ := key 0 x hx0 0 _ (List.getElem?_eq_getElem (by omega))
        exact e3 (by simp)
      subst h0
      refine ⟨b, off, rfl, fun j u hj => ?_⟩
      have hjl : j < (l.flatMap F).length := (List.getElem?_eq_some_iff.1 hj).1
      rw [fm_len hF] at hjl
      have hk : j / P.cellsOf e < l.length := Nat.div_lt_of_lt_mul (by rwa [Nat.mul_comm] at hjl)
      obtain ⟨x, hkx, _⟩ := elem_at l _ hk
      have hi : j % P.cellsOf e < (F x).length := by rw [hF]; exact Nat.mod_lt _ hpos
      have hdm : j / P.cellsOf e * P.cellsOf e + j % P.cellsOf e = j := by rw [Nat.mul_comm]; exact Nat.div_add_mod _ _
      have e1 := fm_cell hF hkx (List.getElem?_eq_getElem hi)
      rw [hdm, hj] at e1
      obtain ⟨cs, T, fr, e2, e3, _⟩ := key _ x hkx _ _ (List.getElem?_eq_getElem hi)
      rw [hdm] at e3
      exact ⟨cs, T, fr, e2, by rw [e3, ← e1]⟩
    · obtain ⟨i, hi, rfl⟩ := List.getElem_of_mem hx
      exact (hl i _ (List.getElem?_eq_getElem hi)).2
theorem readsB_of_trod {v : Value} {d : DataW H} {ps : List MemPlace} {ts : List TypeId} {ds : List (DataW H)} {i : Nat} (h : DataW.Trod enc P w base spare held t v d ps) (ht : ts[i]? = some t) (hd : ds[i]? = some d) (hs : (DataW.weightsEach P ts ds).all (· ≤ reachBytes) = true) : ∃ fuel, ReadsB enc P w base spare held fuel t v.cells.toList := by
  obtain ⟨fuel, h⟩ := h
  exact ⟨fuel, _, h, fun m hm => of_decide_eq_true (List.all_eq_true.1 hs m (weightsEach_at ht hd m hm))⟩
end
end Go.Proofs.Ytlnihndjepjagaa.Gw
