/- The own words of these proofs: a loop over a map. -/
import Derived.Test.YtlnihndjepjagaaGwY
import Derived.Maps.RangeRun
set_option linter.unusedVariables false
set_option linter.unusedSimpArgs false
set_option linter.unusedSectionVars false
namespace Go.Proofs.Ytlnihndjepjagaa.Gw
open Go Go.RowKit
section
variable {α : Type} [DecidableEq α]
/-- A map, and one that walks over it: 'left' is still to come, 'cur' came last. -/
def rg (K : α → Value) (b r : Nat) (m left : List (α × Value)) (cur : Option (α × Value)) : SP := fun h => ∃ (es : Array MapEntry) (clock since : Nat) (seen : Array Nat),
  h b = some (.map es clock) ∧ h r = some (.mapIter (some b) since seen clock) ∧ es.toList.map (fun e => (e.key, e.val)) = m.map (fun p => (K p.1, p.2)) ∧ Born es.toList clock ∧
  (∀ x ∈ es.toList, x.born < since) ∧ since ≤ clock ∧ (es.toList.filter (fun e => !seen.contains e.born)).map (fun e => (e.key, e.val)) = left.map (fun p => (K p.1, p.2)) ∧
  (∀ p, cur = some p → ∃ e ∈ es.toList, ∃ s' : Array Nat, seen = s'.push e.born ∧ e.key = K p.1 ∧ e.val = p.2)
variable {P : Program} {w : World} {l : List SP} {n : Nat} {e : Env} {K' : Value → World → Prop} {d : Option Nat} {ty : TypeId} {pos : String} {af : Array Edge} {g : Option (Nat × Bool)}
theorem Holds.rg_end {K : α → Value} {b r : Nat} {m left : List (α × Value)} {cur : Option (α × Value)} (h : Holds w l) (i : Nat) (hi : l[i]? = some (rg K b r m left cur)) : Holds w (l.set i (mp K b m)) :=
  h.map_at i hi fun h' ⟨es, clock, since, seen, h1, h2, h3, h4, _⟩ => ⟨es, clock, h1, h3, h4⟩
theorem filter_ne {L : List MapEntry} (hp : L.Pairwise fun a b => a.born ≠ b.born) {A B : List MapEntry} {e : MapEntry} (h : L = A ++ e :: B) : L.filter (fun x => !(x.born == e.born)) = A ++ B := by
  subst h
  rw [List.pairwise_append, List.pairwise_cons] at hp
  obtain ⟨_, ⟨h2, _⟩, h3⟩ := hp
  have hA : A.filter (fun x => !(x.born == e.born)) = A := List.filter_eq_self.2 fun x hx => by simpa using h3 x hx e (by simp)
  have hB : B.filter (fun x => !(x.born == e.born)) = B := List.filter_eq_self.2 fun x hx => by simpa using (h2 x hx).symm
  rw [List.filter_append, List.filter_cons, hA, hB]
  simp
theorem contains_push' (s : Array Nat) (a x : Nat) : (s.push a).contains x = (s.contains x || x == a) := by
  rw [Bool.eq_iff_iff]
  simp [Array.mem_push]
theorem map_split {β γ δ : Type} {f : β → δ} {k : γ → δ} : ∀ {A : List β} {x : β} {B : List β} {l : List γ}, (A ++ x :: B).map f = l.map k → ∃ l1 y l2, l = l1 ++ y :: l2 ∧ A.map f = l1.map k ∧ f x = k y ∧ B.map f = l2.map k
  | [], x, B, l, h => by
    cases l with
    | nil => simp at h
    | cons y l => simp only [List.nil_append, List.map_cons, List.cons.injEq] at h; exact ⟨[], y, l, rfl, rfl, h.1, h.2⟩
  | a :: A, x, B, l, h => by
    cases l with
    | nil => simp at h
    | cons y l =>
      simp only [List.cons_append, List.map_cons, List.cons.injEq] at h
      obtain ⟨l1, z, l2, e1, e2, e3, e4⟩ := map_split h.2
      exact ⟨y :: l1, z, l2, by rw [e1]; rfl, by simp [h.1, e2], e3, e4⟩
theorem T_range {K : α → Value} {t k el : TypeId} {x : Operand} {b : Nat} {m : List (α × Value)} (hx : ev n e x = .map (some b)) (ht : P.underlying t = some (.map k el)) (h : Holds w l) (i : Nat) (hi : l[i]? = some (mp K b m))
    (c : ∀ r w', Same w w' → Holds w' (l.set i (rg K b r m m none)) → K' (.pointer (some ⟨r, 0, none⟩)) w') : Stp P n e ⟨d, .range t x, ty, pos, af, g⟩ w K' := by
  obtain ⟨es, clock, hb, he, hbo⟩ := h.mp_block i hi
  refine .inl ⟨_, _, ?_, c w.heap.size _ (Same.alloc w (.mapIter (some b) clock #[] clock)) ?_⟩
  · simp only [execOp, hx]
    simp [run_range_map w t k el b es clock ht hb]
  · have h1 := h.allocOb (.mapIter (some b) clock #[] clock)
    have h2 : Holds (w.alloc (.mapIter (some b) clock #[] clock)) (mp K b m :: ob w.heap.size (.mapIter (some b) clock #[] clock) :: l.eraseIdx i) := h1.bring (i + 1) hi
    obtain ⟨g1, g2, s1, s2, d1, ⟨es1, clock1, a1, a2, a3⟩, g3, g4, s3, s4, d3, a4, rest⟩ := h2
    have e1 : (w.alloc (.mapIter (some b) clock #[] clock)).heap[b]? = some (.map es1 clock1) := s1 _ _ a1
    have hlt : b < w.heap.size := by
      rcases Nat.lt_or_ge b w.heap.size with x | x
      · exact x
      · rw [Array.getElem?_eq_none x] at hb; cases hb
    have e0 : (w.alloc (.mapIter (some b) clock #[] clock)).heap[b]? = w.heap[b]? := by
      show (w.heap.push _)[b]? = _
      rw [Array.getElem?_push, if_neg (by omega)]
    rw [e0, hb] at e1
    cases e1
    have hil : i < l.length := (List.getElem?_eq_some_iff.1 hi).1
    refine Sat.back i (A := rg K b w.heap.size m m none) (by simp [hil]) ?_
    rw [List.eraseIdx_set_eq]
    refine ⟨un g1 g3, g4, Sub.un_lub s1 (s3.trans' s2), s4.trans' s2, Dis.un_left (d1.sub_right s4) d3, ?_, rest⟩
    exact ⟨es, clock, clock, #[], Sub.un_left _ _ _ _ a1, Sub.un_right (d1.sub_right s3) _ _ a4, a2, a3, a3.1, Nat.le_refl _, by rw [← a2]; congr 1; exact List.filter_eq_self.2 fun _ _ => by simp, fun p hp => by cases hp⟩
theorem T_rangeNil {t k el : TypeId} {x : Operand} (hx : ev n e x = .map none) (ht : P.underlying t = some (.map k el)) (h : Holds w l)
    (c : ∀ r w', Same w w' → Holds w' (ob r (.mapIter none 0 #[] 0) :: l) → K' (.pointer (some ⟨r, 0, none⟩)) w') : Stp P n e ⟨d, .range t x, ty, pos, af, g⟩ w K' := by
  refine .inl ⟨_, _, ?_, c w.heap.size _ (Same.alloc w (.mapIter none 0 #[] 0)) (h.allocOb _)⟩
  simp only [execOp, hx]
  simp [run_range_nilMap w t k el ht]
theorem T_next {K : α → Value} {x : Operand} {b r : Nat} {m left : List (α × Value)} {cur : Option (α × Value)} (hx : ev n e x = .pointer (some ⟨r, 0, none⟩)) (h : Holds w l) (i : Nat) (hi : l[i]? = some (rg K b r m left cur))
    (c0 : left = [] → K' (.tuple #[.bool false]) w)
    (c1 : ∀ p l1 l2, left = l1 ++ p :: l2 → ∀ w', Same w w' → Holds w' (l.set i (rg K b r m (l1 ++ l2) (some p))) → K' (.tuple #[.bool true, K p.1, p.2]) w') : Stp P n e ⟨d, .next x false, ty, pos, af, g⟩ w K' := by
  obtain ⟨h', s, es, clock, since, seen, hb, hr, hm, hbo, hold, hsc, hl, hc⟩ := Sat.at i hi h
  have hne : b ≠ r := by rintro rfl; rw [hb] at hr; cases hr
  rcases run_next_at (P := P) w ty r b since clock seen es clock (s _ _ hr) (s _ _ hb) hold hsc with ⟨h0, hrun⟩ | ⟨q, hq, w1, hal, hrun⟩
  · refine .inl ⟨_, _, ?_, c0 ?_⟩
    · simp only [execOp, hx]; simp [hrun]
    · have h1 : leftOf es seen = #[] := Array.eq_empty_of_size_eq_zero h0
      have h2 : es.toList.filter (fun e => !seen.contains e.born) = [] := by
        have := congrArg Array.toList h1
        simpa [leftOf] using this
      rw [h2] at hl
      cases left with
      | nil => rfl
      | cons _ _ => simp at hl
  · have hq' : q ∈ es.toList.filter (fun e => !seen.contains e.born) := by simpa [leftOf] using hq
    obtain ⟨A, B, hAB⟩ := List.append_of_mem hq'
    rw [hAB] at hl
    obtain ⟨l1, p, l2, e1, e2, e3, e4⟩ := map_split hl
    obtain ⟨ek, evl⟩ := Prod.mk.inj e3
    have hw1 : Holds w1 l := by rcases hal with rfl | rfl <;> exact h
    have hs1 : Same w w1 := by
      rcases hal with rfl | rfl
      · exact Same.refl _
      · exact Same.drew _
    have hr1 : w1.heap[r]? = some (.mapIter (some b) since seen clock) := by
      have := s _ _ hr
      rcases hal with rfl | rfl <;> exact this
    refine .inl ⟨_, _, ?_, c1 p l1 l2 e1 (ChangeMaps.setBlock w1 r (.mapIter (some b) since (seen.push q.born) clock)) (hs1.trans ⟨rfl, rfl, rfl⟩) ?_⟩
    · simp only [execOp, hx]; simp [hrun, ek, evl]
    · have hrs : r < w1.heap.size := by
        rcases Nat.lt_or_ge r w1.heap.size with x | x
        · exact x
        · rw [Array.getElem?_eq_none x] at hr1; cases hr1
      have hu : hp (ChangeMaps.setBlock w1 r (.mapIter (some b) since (seen.push q.born) clock)) = upb (hp w1) r (.mapIter (some b) since (seen.push q.born) clock) := by
        refine hp_setBlock _ _ _ _ (by simp [ChangeMaps.setBlock, hrs]) (fun c hc => by simp [ChangeMaps.setBlock, Ne.symm hc])
      unfold Holds
      rw [hu]
      refine Sat.set i hi hw1 fun h k s t d a => ?_
      obtain ⟨es1, clock1, since1, seen1, hb1, hr2, _, _, _, _, _, _⟩ := a
      have q1 : some (Obj.map es clock) = some (.map es1 clock1) := by
        have x1 : w1.heap[b]? = some (.map es1 clock1) := s _ _ hb1
        have x2 : w1.heap[b]? = some (.map es clock) := by
          have := ‹Sub h' (hp w)› _ _ hb
          rcases hal with rfl | rfl <;> exact this
        rw [← x1, ← x2]
      cases q1
      refine ⟨upb h r (.mapIter (some b) since (seen.push q.born) clock), ?_, ?_, ?_, ⟨es, clock, since, seen.push q.born, ?_, by simp [upb], hm, hbo, hold, hsc, ?_, fun p' hp' => ?_⟩⟩
      · intro c x hcx
        unfold upb at hcx ⊢
        split
        · rename_i hc; rw [if_pos hc] at hcx; exact hcx
        · rename_i hc; rw [if_neg hc] at hcx; exact s c x hcx
      · intro c x hcx
        unfold upb
        split
        · rename_i hc
          subst hc
          rcases d c with z | z
          · rw [z] at hr2; cases hr2
          · rw [z] at hcx; cases hcx
        · exact t c x hcx
      · intro c
        unfold upb
        split
        · rename_i hc
          subst hc
          rcases d c with z | z
          · rw [z] at hr2; cases hr2
          · exact .inr z
        · exact d c
      · show upb h r _ b = _
        unfold upb; rw [if_neg hne]; exact hb1
      · have hf : es.toList.filter (fun e => !(seen.push q.born).contains e.born) = A ++ B := by
          rw [← filter_ne (L := es.toList.filter (fun e => !seen.contains e.born)) (hbo.2.sublist List.filter_sublist) hAB, List.filter_filter]
          refine List.filter_congr fun x _ => ?_
          rw [contains_push']
          cases seen.contains x.born <;> cases x.born == q.born <;> rfl
        rw [hf, List.map_append, e2, e4, List.map_append]
      · cases hp'
        exact ⟨q, (List.mem_filter.1 hq').1, seen, rfl, ek, evl⟩
theorem T_entry {K : α → Value} {x : Operand} {b r : Nat} {m left : List (α × Value)} {p : α × Value} (hx : ev n e x = .pointer (some ⟨r, 0, none⟩)) (h : Holds w l) (i : Nat) (hi : l[i]? = some (rg K b r m left (some p)))
    (c : K' (.tuple #[K p.1, p.2]) w) : Stp P n e ⟨d, .entry x, ty, pos, af, g⟩ w K' := by
  obtain ⟨h', s, es, clock, since, seen, hb, hr, hm, hbo, hold, hsc, hl, hc⟩ := Sat.at i hi h
  obtain ⟨q, hq, s', rfl, ek, evl⟩ := hc p rfl
  have hn : (es.toList.map (·.born)).Nodup := List.pairwise_map.2 hbo.2
  refine .inl ⟨_, _, ?_, c⟩
  simp only [execOp, hx]
  simp [run_entry_at w r b since s' es clock q (s _ _ hr) (s _ _ hb) hq hn, ek, evl]
/-- 'delete' of what came last, under way. -/
theorem T_deleteRg {K : α → Value} {t k el u : TypeId} {x y : Operand} {b r : Nat} {m left : List (α × Value)} {p : α × Value} (hx : ev n e x = .map (some b)) (hy : ev n e y = K p.1) (kk : KeyKind P k K) (ht : P.underlying t = some (.map k el))
    (h : Holds w l) (i : Nat) (hi : l[i]? = some (rg K b r m left (some p))) (hnd : (m.map (·.1)).Nodup) (hpm : p ∈ m) (hpl : ∀ q ∈ left, q.1 ≠ p.1)
    (c : ∀ w', Same w w' → Holds w' (l.set i (rg K b r (mdel m p.1) left none)) → K' (.tuple #[]) w') : Stp P n e ⟨d, .call { callee := .builtin .delete, args := #[x, y], argTypes := #[t, u] }, ty, pos, af, g⟩ w K' := by
  obtain ⟨h', s, es, clock, since, seen, hb, hr, hm, hbo, hold, hsc, hl, hc⟩ := Sat.at i hi h
  have hne : r ≠ b := by rintro rfl; rw [hb] at hr; cases hr
  have hkeys : es.toList.map (·.key) = (m.map (·.1)).map K := by
    have := congrArg (List.map (·.1)) hm
    simpa [List.map_map, Function.comp_def] using this
  have hf := kk.find w p.1 es.toList (m.map (·.1)) hkeys
  rw [mp_find hm p.1] at hf
  have hlen : es.toList.length = m.length := by simpa using congrArg List.length hm
  obtain ⟨j, hj⟩ : ∃ j, m.findIdx? (fun q => decide (q.1 = p.1)) = some j := by
    cases hq : m.findIdx? (fun q => decide (q.1 = p.1)) with
    | some j => exact ⟨j, rfl⟩
    | none => rw [List.findIdx?_eq_none_iff] at hq; exact absurd (hq p hpm) (by simp)
  have hj2 := hj
  rw [List.findIdx?_eq_some_iff_getElem] at hj2
  obtain ⟨hjm, hjp, _⟩ := hj2
  have hjp' : m[j].1 = p.1 := by simpa using hjp
  have hbw : w.heap[b]? = some (.map es clock) := s _ _ hb
  have hrun : (Builtin.delete_ #[t, u] ty #[.map (some b), K p.1]).run P w = .ok (.tuple #[]) { w with heap := w.heap.setIfInBounds b (.map (es.eraseIdxIfInBounds j) clock) } := by
    simp only [Builtin.delete_, List.getElem?_toArray, List.getElem?_cons_zero, List.getElem?_cons_succ, Sem.run_bind, run_underlying ht, Result.andThen_ok, run_getObj hbw, kk.check, hf, hj]
    simp only [Option.bind_some, List.getElem?_eq_getElem hjm, Option.map_some, Sem.run_bind, Sem.run_pure, Go.MapKept.run_setObj_map _ hbw, Result.andThen_ok]
  refine .inl ⟨.tuple #[], { w with heap := w.heap.setIfInBounds b (.map (es.eraseIdxIfInBounds j) clock) }, ?_, c _ ⟨rfl, rfl, rfl⟩ ?_⟩
  · simp only [execOp, resolve, Sem.run_bind, Sem.run_pure, Result.andThen_ok, invoke, builtin]
    simp [hx, hy, hrun]
  · have hbs : b < w.heap.size := by
      rcases Nat.lt_or_ge b w.heap.size with x | x
      · exact x
      · rw [Array.getElem?_eq_none x] at hbw; cases hbw
    have hu : hp { w with heap := w.heap.setIfInBounds b (.map (es.eraseIdxIfInBounds j) clock) } = upb (hp w) b (.map (es.eraseIdxIfInBounds j) clock) :=
      hp_setBlock _ _ _ _ (by simp [hbs]) (fun c hc => by simp [Ne.symm hc])
    unfold Holds
    rw [hu]
    refine Sat.set i hi h fun h k s t d a => ?_
    obtain ⟨es1, clock1, since1, seen1, hb1, hr2, _, _, _, _, _, _⟩ := a
    have q1 : some (Obj.map es clock) = some (.map es1 clock1) := by
      have x1 : w.heap[b]? = some (.map es1 clock1) := s _ _ hb1
      rw [← x1, ← hbw]
    have q2 : some (Obj.mapIter (some b) since seen clock) = some (.mapIter (some b) since1 seen1 clock1) := by
      have x1 : w.heap[r]? = some (.mapIter (some b) since1 seen1 clock1) := s _ _ hr2
      have x2 : w.heap[r]? = some (.mapIter (some b) since seen clock) := ‹Sub h' (hp w)› _ _ hr
      rw [← x1, ← x2]
    cases q1; cases q2
    have hje : j < es.toList.length := by omega
    have hkj : (es.toList[j]'hje).key = K p.1 := by
      have h1 := congrArg (fun l : List (Value × Value) => l[j]?) hm
      simp only [List.getElem?_map, List.getElem?_eq_getElem hje, List.getElem?_eq_getElem hjm, Option.map_some, Option.some.injEq, Prod.mk.injEq] at h1
      rw [h1.1, hjp']
    refine ⟨upb h b (.map (es.eraseIdxIfInBounds j) clock), ?_, ?_, ?_, ⟨es.eraseIdxIfInBounds j, clock, since, seen, by simp [upb], ?_, ?_, ?_, ?_, hsc, ?_, fun p' hp' => by cases hp'⟩⟩
    · intro c9 x hcx
      unfold upb at hcx ⊢
      split
      · rename_i hc9; rw [if_pos hc9] at hcx; exact hcx
      · rename_i hc9; rw [if_neg hc9] at hcx; exact s c9 x hcx
    · intro c9 x hcx
      unfold upb
      split
      · rename_i hc9
        subst hc9
        rcases d c9 with z | z
        · rw [z] at hb1; cases hb1
        · rw [z] at hcx; cases hcx
      · exact t c9 x hcx
    · intro c9
      unfold upb
      split
      · rename_i hc9
        subst hc9
        rcases d c9 with z | z
        · rw [z] at hb1; cases hb1
        · exact .inr z
      · exact d c9
    · show upb h b _ r = _
      unfold upb; rw [if_neg hne]; exact hr2
    · rw [mdel_some hj, Array.toList_eraseIdxIfInBounds]
      apply List.ext_getElem? ; intro q
      have := fun q : Nat => congrArg (fun l : List (Value × Value) => l[q]?) hm
      simp only [List.getElem?_map] at this
      simp only [List.getElem?_map, List.getElem?_eraseIdx]
      split <;> rw [this]
    · rw [Array.toList_eraseIdxIfInBounds]; exact hbo.erase j
    · intro x hx
      rw [Array.toList_eraseIdxIfInBounds] at hx
      exact hold x (List.mem_of_mem_eraseIdx hx)
    · rw [← hl, Array.toList_eraseIdxIfInBounds]
      congr 1
      obtain ⟨y, hy9⟩ : ∃ y, y = es.toList[j]'hje := ⟨_, rfl⟩
      obtain ⟨A, B, hAB, hAl⟩ : ∃ A B, es.toList = A ++ y :: B ∧ A.length = j := ⟨es.toList.take j, es.toList.drop (j + 1), by rw [hy9, List.getElem_cons_drop, List.take_append_drop], by rw [List.length_take]; omega⟩
      rw [← hy9] at hkj
      have hnot : (!seen.contains y.born) = false := by
        rw [Bool.eq_false_iff]
        intro hc2
        have hmem : y ∈ es.toList.filter (fun e => !seen.contains e.born) := List.mem_filter.2 ⟨hy9 ▸ List.getElem_mem hje, hc2⟩
        have h1 := List.mem_map_of_mem (f := fun e : MapEntry => (e.key, e.val)) hmem
        rw [hl] at h1
        obtain ⟨q, hq, eq⟩ := List.mem_map.1 h1
        have h2 : K q.1 = K p.1 := by rw [(Prod.mk.inj eq).1, hkj]
        exact hpl q hq (kk.inj _ _ h2)
      have e1 : es.toList.eraseIdx j = A ++ B := by
        conv => lhs; rw [hAB]
        rw [← hAl, List.eraseIdx_append_of_length_le (Nat.le_refl _), Nat.sub_self, List.eraseIdx_cons_zero]
      rw [e1]
      conv => rhs; rw [hAB]
      rw [List.filter_append, List.filter_append, List.filter_cons, hnot]
      simp
/-! ### The end of a slice -/
theorem fm_dropk {β : Type} {F : β → List Value} {n : Nat} (hn : ∀ x, (F x).length = n) : ∀ (L : List β) (k : Nat), (L.flatMap F).drop (k * n) = (L.drop k).flatMap F
  | [], k => by simp
  | x :: L, 0 => by simp
  | x :: L, k + 1 => by
    rw [List.flatMap_cons, Nat.succ_mul, List.drop_append, List.drop_eq_nil_of_le (by rw [hn]; omega), List.nil_append, hn, Nat.add_sub_cancel, fm_dropk hn L k, List.drop_succ_cons]
theorem fm_takek {β : Type} {F : β → List Value} {n : Nat} (hn : ∀ x, (F x).length = n) : ∀ (L : List β) (k : Nat), (L.flatMap F).take (k * n) = (L.take k).flatMap F
  | [], k => by simp
  | x :: L, 0 => by simp
  | x :: L, k + 1 => by
    rw [List.flatMap_cons, Nat.succ_mul, List.take_append, List.take_of_length_le (by rw [hn]; omega), hn, Nat.add_sub_cancel, fm_takek hn L k, List.take_succ_cons, List.flatMap_cons]
theorem RS.slcF {β : Type} {F : β → List Value} {n a b : Nat} (hn : ∀ x, (F x).length = n) {R : HP} {v : Value} {L : List β} (h : RS R n v L.length (L.flatMap F)) (h1 : a ≤ b) (h2 : b ≤ L.length) : RS R n (Gw.slc v a b n) ((L.drop a).take (b - a)).length (((L.drop a).take (b - a)).flatMap F) := by
  have := h.slc h1 h2
  rw [fm_dropk hn, fm_takek hn] at this
  rwa [List.length_take, List.length_drop, Nat.min_eq_left (by omega)]
theorem RS.slcD {β : Type} {F : β → List Value} {n a : Nat} (hn : ∀ x, (F x).length = n) {R : HP} {v : Value} {L : List β} (h : RS R n v L.length (L.flatMap F)) (h1 : a ≤ L.length) : RS R n (Gw.slc v a L.length n) (L.drop a).length ((L.drop a).flatMap F) := by
  have := RS.slcF hn h h1 (Nat.le_refl _)
  rwa [List.take_of_length_le (by rw [List.length_drop]; omega)] at this
theorem Holds.sl_drop {T sz m k : Nat} {v : Value} {xs : List Value} (h : Holds w l) (i : Nat) (hi : l[i]? = some (sl T sz v m xs)) (hk : k < m) : Holds w (l.set i (sl T sz (slc v k m sz) (m - k) (xs.drop (k * sz)))) := by
  refine h.map_at i hi fun h' a => ?_
  rcases a with ⟨rfl, rfl, rfl⟩ | ⟨b, pr, sp, cap, rfl, e2, e3, e4, c⟩
  · omega
  · have hkm := Nat.mul_le_mul_right sz (Nat.le_of_lt hk)
    refine .inr ⟨b, pr ++ xs.take (k * sz), sp, cap - k, ?_, ?_, ?_, by omega, ?_⟩
    · simp only [slc]
      rw [if_neg (by omega), List.length_append, List.length_take, Nat.min_eq_left (by omega)]
      simp [add_mk]
    · rw [List.length_drop, e2, Nat.sub_mul]
    · rw [e3]; congr 1; omega
    · have : pr ++ xs.take (k * sz) ++ xs.drop (k * sz) ++ sp = pr ++ xs ++ sp := by
        rw [List.append_assoc pr, List.take_append_drop]
      rw [this]; exact c
end
end Go.Proofs.Ytlnihndjepjagaa.Gw
