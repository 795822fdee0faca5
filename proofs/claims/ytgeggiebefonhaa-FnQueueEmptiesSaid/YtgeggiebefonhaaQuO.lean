/- Taking all out of a queue of leases: what the law's loops need. -/
import Derived.Test.YtgeggiebefonhaaQuN
set_option linter.unusedVariables false
set_option linter.unusedSimpArgs false
namespace Go.Proofs.Ytgeggiebefonhaa
open Go Go.RowKit Gw
theorem zip_at {ids times : List Int} {k : Nat} {x y : Int} (hx : ids[k]? = some x) (hy : times[k]? = some y) : (List.zip ids times)[k]? = some (x, y) := by
  rw [List.getElem?_zip_eq_some]; exact ⟨hx, hy⟩
theorem regs_take {ids times : List Int} {k : Nat} {x y : Int} (hx : ids[k]? = some x) (hy : times[k]? = some y) :
    (regs (List.take k (List.zip ids times))).flatMap QOp.cells ++ [Value.int .i64 1, Value.int .i64 x, Value.int .i64 y] = (regs (List.take (k + 1) (List.zip ids times))).flatMap QOp.cells := by
  rw [List.take_add_one, zip_at hx hy]
  simp [regs, QOp.cells]
theorem regs_take_len {ids times : List Int} {k : Nat} {x y : Int} (hx : ids[k]? = some x) (hy : times[k]? = some y) :
    (regs (List.take k (List.zip ids times))).length + 1 = (regs (List.take (k + 1) (List.zip ids times))).length := by
  rw [List.take_add_one, zip_at hx hy]
  simp [regs]
theorem pops_take {z : List (Int × Int)} {j : Nat} : (regs z ++ List.replicate j pop3).flatMap QOp.cells ++ [Value.int .i64 3, Value.int .i64 0, Value.int .i64 0] = (regs z ++ List.replicate (j + 1) pop3).flatMap QOp.cells := by
  rw [List.replicate_succ', ← List.append_assoc, List.flatMap_append (ys := [pop3])]
  simp [QOp.cells, pop3]
theorem ops_ok {z : List (Int × Int)} {j : Nat} (h : ∀ x ∈ regs z, 1 ≤ x.kind ∧ x.kind ≤ 4 ∧ 0 ≤ x.at_ ∧ x.at_ ≤ 1152921504606846976) : ∀ x ∈ regs z ++ List.replicate j pop3, 1 ≤ x.kind ∧ x.kind ≤ 4 ∧ 0 ≤ x.at_ ∧ x.at_ ≤ 1152921504606846976 := by
  intro x hx
  rcases List.mem_append.1 hx with hx | hx
  · exact h x hx
  · rw [(List.mem_replicate.1 hx).2]; decide
theorem lastT_mem {z : List (Int × Int)} {i t : Int} : lastT z i = some t → (i, t) ∈ z := by
  induction z using snoc_ind with
  | h0 => intro h; simp [lastT] at h
  | hs z p ih =>
    rw [lastT_snoc]
    split
    · rename_i e
      intro h; cases h; subst e; simp
    · intro h; exact List.mem_append_left _ (ih h)
theorem lastT_take {ids times : List Int} {k : Nat} {x y i : Int} (hx : ids[k]? = some x) (hy : times[k]? = some y) : lastT (List.take (k + 1) (List.zip ids times)) i = if x = i then some y else lastT (List.take k (List.zip ids times)) i := by
  rw [List.take_add_one, zip_at hx hy]
  exact lastT_snoc _ _ _
theorem empties' {ids times : List Int} {n j : Nat} {an : List QAns} {D : List (Int × Int)} (hn : (List.zip ids times).length = n) (hj : j = n + 1) (h : QRun (regs (List.zip ids times) ++ List.replicate j pop3) an D) : ∃ P, Out (List.zip ids times) an P := by
  subst hj; subst hn; exact empties h
theorem out_yes {z : List (Int × Int)} {an : List QAns} {P : List (Int × Int)} {n j : Nat} {x : QAns} (h : Out z an P) (hn : z.length = n) (hx : an[n + j]? = some x) (ho : x.ok = true) : ∃ p, P[j]? = some p ∧ x.iD = p.1 ∧ x.at_ = p.2 := by
  subst hn
  by_cases hj : j < P.length
  · have e := h.yes j P[j] (List.getElem?_eq_getElem hj)
    rw [hx] at e
    cases e
    exact ⟨P[j], List.getElem?_eq_getElem hj, rfl, rfl⟩
  · have := h.no j x (by omega) hx
    rw [ho] at this; cases this
theorem out_no {z : List (Int × Int)} {an : List QAns} {P : List (Int × Int)} {n j : Nat} {x : QAns} (h : Out z an P) (hn : z.length = n) (hx : an[n + j]? = some x) (ho : x.ok = false) : P.length ≤ j := by
  subst hn
  rcases Nat.lt_or_ge j P.length with hj | hj
  · have e := h.yes j P[j] (List.getElem?_eq_getElem hj)
    rw [hx] at e
    cases e
    cases ho
  · exact hj
theorem out_end {z : List (Int × Int)} {an : List QAns} {P : List (Int × Int)} {n k : Nat} {x : QAns} (h : Out z an P) (hn : z.length = n) (hk : k = n + n) (hx : an[k]? = some x) : x.ok = false := by
  subst hk
  refine h.no n x ?_ (by rw [hn]; exact hx)
  have := h.few; omega
theorem was_ok {P : List (Int × Int)} (hs : P.Pairwise fun a b => a.2 ≤ b.2) {j : Nat} {p : Int × Int} (hp : P[j]? = some p) : ∀ r ∈ P.drop (j + 1), p.2 ≤ r.2 := by
  intro r hr
  have hj := (List.getElem?_eq_some_iff.1 hp).1
  rw [List.drop_add_one_eq_tail_drop, List.drop_eq_getElem_cons hj] at hr
  have e := (List.getElem?_eq_some_iff.1 hp).2
  have := hs.drop (i := j)
  rw [List.drop_eq_getElem_cons hj, List.pairwise_cons] at this
  rw [e] at this
  exact this.1 r hr
theorem drop_mem {P : List (Int × Int)} {j : Nat} {p : Int × Int} (hp : P[j]? = some p) : p ∈ P.drop j := by
  have hj := (List.getElem?_eq_some_iff.1 hp).1
  rw [List.drop_eq_getElem_cons hj, (List.getElem?_eq_some_iff.1 hp).2]; simp
theorem seen_take {P : List (Int × Int)} {j : Nat} {p : Int × Int} (hp : P[j]? = some p) : (List.take j (P.map Prod.fst)).map (Value.int .i64) ++ [Value.int .i64 p.1] = (List.take (j + 1) (P.map Prod.fst)).map (Value.int .i64) := by
  rw [List.take_add_one]
  simp [hp]
theorem seen_ne {P : List (Int × Int)} (hn : (P.map Prod.fst).Nodup) {j k : Nat} {p : Int × Int} {y : Int} (hp : P[j]? = some p) (hy : (List.take j (P.map Prod.fst))[k]? = some y) : y ≠ p.1 := by
  intro e
  have hk := (List.getElem?_eq_some_iff.1 hy).1
  simp only [List.length_take, List.length_map] at hk
  rw [List.getElem?_take_of_lt (by omega)] at hy
  have hj := (List.getElem?_eq_some_iff.1 hp).1
  have pw := List.pairwise_iff_getElem.1 hn k j (by simp; omega) (by simpa using hj) (by omega)
  refine pw ?_
  have e1 := (List.getElem?_eq_some_iff.1 hy).2
  rw [e1]
  simp [(List.getElem?_eq_some_iff.1 hp).2, e]
theorem mem_take_succ {l : List Int} {k : Nat} {y x : Int} (hy : l[k]? = some y) (h : ∀ r ∈ l.take k, x ≠ r) (hxy : x ≠ y) : ∀ r ∈ l.take (k + 1), x ≠ r := by
  intro r hr
  rw [List.take_add_one, hy] at hr
  rcases List.mem_append.1 hr with hr | hr
  · exact h r hr
  · simp at hr; subst hr; exact hxy
theorem has_out {ids times : List Int} {an : List QAns} {P : List (Int × Int)} (h : Out (List.zip ids times) an P) (hl : times.length = ids.length) {x : Int} (hx : x ∈ ids) {j : Nat} (hj : P.length ≤ j) (hno : ∀ y ∈ List.take j (P.map Prod.fst), x ≠ y) : False := by
  obtain ⟨k, hk, e⟩ := List.getElem_of_mem hx
  have hz : (List.zip ids times)[k]? = some (x, times[k]'(by omega)) := zip_at (by rw [List.getElem?_eq_getElem hk, e]) (List.getElem?_eq_getElem (by omega))
  obtain ⟨r, hr, e⟩ := h.has _ (List.mem_of_getElem? hz)
  refine hno r.1 ?_ e.symm
  rw [List.take_of_length_le (by simpa using hj)]
  exact List.mem_map_of_mem hr
end Go.Proofs.Ytgeggiebefonhaa
