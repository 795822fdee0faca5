/- What a queue of leases has, as a book. -/
import Derived.Test.YtgeggiebefonhaaQuF0
set_option linter.unusedVariables false
set_option linter.unusedSimpArgs false
namespace Go.Proofs.Ytgeggiebefonhaa
open Go Go.RowKit Gw
theorem good_push {q : List Nd} (g : Good q) (b : Nat) (id t : Int) : Good (q ++ [⟨b, id, t, q.length⟩]) := by
  intro i x hx
  by_cases hi : i < q.length
  · rw [List.getElem?_append_left hi] at hx; exact g i x hx
  · have e : i = q.length := by
      have := (List.getElem?_eq_some_iff.1 hx).1
      simp at this; omega
    subst e
    rw [List.getElem?_append_right (Nat.le_refl _), Nat.sub_self] at hx
    cases hx; rfl
theorem tm_app {q r : List Nd} {i : Nat} (h : i < q.length) : tm (q ++ r) i = tm q i := by unfold tm; rw [List.getElem?_append_left h]
theorem up_push {q : List Nd} (h : HeapN q q.length) (x : Nd) : UpInv (q ++ [x]) q.length := by
  constructor
  · intro k h0 hk hne
    have hk' : k < q.length := by simp at hk; omega
    rw [tm_app hk', tm_app (by omega)]
    exact h k h0 hk'
  · intro k h0 hk hp hj
    simp at hk
    omega
theorem tm_take {q : List Nd} {i n : Nat} (h : i < n) : tm (q.take n) i = tm q i := by unfold tm; rw [List.getElem?_take_of_lt h]
theorem heap_take {q : List Nd} {n : Nat} (h : HeapN q n) (hn : n ≤ q.length) : HeapN (q.take n) (q.take n).length := by
  intro k h0 hk
  simp at hk
  rw [tm_take (by omega), tm_take (by omega)]
  exact h k h0 (by omega)
theorem good_take {q : List Nd} {n : Nat} (g : Good q) : Good (q.take n) := by
  intro i x hx
  rw [List.getElem?_take] at hx
  split at hx
  · exact g i x hx
  · cases hx
theorem HeapN.least {q : List Nd} {n : Nat} (h : HeapN q n) : ∀ k, k < n → tm q 0 ≤ tm q k := by
  intro k
  induction k using Nat.strongRecOn with
  | ind k ih =>
    intro hk
    rcases Nat.eq_zero_or_pos k with e | e
    · subst e; omega
    · have a := ih ((k - 1) / 2) (by omega) (by omega)
      have b := h k e hk
      omega
theorem HeapN.least' {q : List Nd} (h : HeapN q q.length) {x : Nd} (h0 : q[0]? = some x) : ∀ y ∈ q, x.t ≤ y.t := by
  intro y hy
  obtain ⟨k, hk, e⟩ := List.getElem_of_mem hy
  have := h.least k hk
  rw [tm_at h0, tm_at (by rw [List.getElem?_eq_getElem hk, e] : q[k]? = some y)] at this
  exact this
theorem DI.root {q : List Nd} {n : Nat} (h : HeapN q (n + 1)) (hn : n + 1 = q.length) {x y : Nd} (hx : q[0]? = some x) (hy : q[n]? = some y) : DI (swp q 0 n x y) 0 n := by
  constructor
  · intro k h0 hk h1 h2
    rw [tm_swp hx hy, tm_swp hx hy, if_neg (by omega), if_neg h2, if_neg (by omega), if_neg h1]
    exact h k h0 (by omega)
  · intro k h0 hk hp hj
    omega
theorem DEnd.heap {q0 q : List Nd} {n : Nat} {b : Bool} (h : DEnd q0 q 0 n b) (hd : DI q0 0 n) : HeapN q n := by
  cases b with
  | true => exact h.1 rfl
  | false =>
    obtain ⟨e, hc⟩ := h.2.1 rfl
    subst e
    intro k h0 hk
    by_cases e : (k - 1) / 2 = 0
    · rw [e]; exact hc k h0 hk e
    · exact hd.1 k h0 hk (by omega) e
/-- One node has another time. -/
def retime (q : List Nd) (i : Nat) (x : Nd) (t : Int) : List Nd := q.set i { x with t := t }
theorem tm_retime {q : List Nd} {i : Nat} {x : Nd} {t : Int} (hi : q[i]? = some x) (k : Nat) : tm (retime q i x t) k = if k = i then t else tm q k := by
  have h1 := (List.getElem?_eq_some_iff.1 hi).1
  unfold tm retime
  by_cases e : k = i
  · subst e; simp [h1]
  · rw [List.getElem?_set_ne (Ne.symm e), if_neg e]
theorem DI.retime {q : List Nd} (h : HeapN q q.length) {i : Nat} {x : Nd} {t : Int} (hi : q[i]? = some x) : DI (retime q i x t) i q.length := by
  have hil := (List.getElem?_eq_some_iff.1 hi).1
  constructor
  · intro k h0 hk h1 h2
    rw [tm_retime hi, tm_retime hi, if_neg h2, if_neg h1]
    exact h k h0 hk
  · intro k h0 hk hp hj
    rw [tm_retime hi, tm_retime hi, if_neg (by omega), if_neg (by omega)]
    have a := h k h0 hk
    have b := h i hj hil
    rw [hp] at a
    omega
theorem DEnd.up {q : List Nd} (h : HeapN q q.length) {i : Nat} {x : Nd} {t : Int} (hi : q[i]? = some x) {q' : List Nd} (he : DEnd (retime q i x t) q' i q.length false) : UpInv (retime q i x t) i := by
  obtain ⟨e, hc⟩ := he.2.1 rfl
  subst e
  have hd := DI.retime h hi (t := t)
  have hl : (retime q i x t).length = q.length := by simp [retime]
  constructor
  · intro k h0 hk hne
    rw [hl] at hk
    by_cases c : (k - 1) / 2 = i
    · rw [c]; exact hc k h0 hk c
    · exact hd.1 k h0 hk hne c
  · intro k h0 hk hp hj
    rw [hl] at hk
    exact hd.2 k h0 hk hp hj
theorem good_retime {q : List Nd} {i : Nat} {x : Nd} {t : Int} (g : Good q) (hi : q[i]? = some x) : Good (retime q i x t) := by
  intro k z hz
  unfold retime at hz
  by_cases e : k = i
  · subst e
    have h1 := (List.getElem?_eq_some_iff.1 hi).1
    rw [List.getElem?_set_self h1] at hz; cases hz
    exact g k x hi
  · rw [List.getElem?_set_ne (Ne.symm e)] at hz; exact g k z hz
theorem fam_last {q : List Nd} {n : Nat} (hn : q.length = n + 1) (c : Nat × List Value) : ((encs q).set n c).eraseIdx n = encs (q.take n) := by
  have hl : (encs q).length = n + 1 := by simp [encs, hn]
  apply List.ext_getElem?
  intro i
  rw [List.getElem?_eraseIdx]
  by_cases hi : i < n
  · rw [if_pos hi, List.getElem?_set_ne (by omega)]
    simp [encs, hi]
  · rw [if_neg hi, List.getElem?_eq_none (by simp [hl]; omega), List.getElem?_eq_none (by simp [encs]; omega)]
theorem pop_len {q q' : List Nd} {n : Nat} {x y : Nd} (h : QP (swp q 0 n x y) q') (hl : q.length = n + 1) : q'.length = n + 1 := by rw [h.2.2, swp_len, hl]
theorem pop_perm {q q' : List Nd} {n : Nat} {x y : Nd} (h : QP (swp q 0 n x y) q') (hx : q[0]? = some x) (hy : q[n]? = some y) (hl : q.length = n + 1) (hz : q'[n]? = some { x with idx := (n : Int) }) : (q.map Nd.key).Perm (x.key :: (q'.take n).map Nd.key) := by
  have hq := pop_len h hl
  have e : q' = q'.take n ++ [{ x with idx := (n : Int) }] := by
    have h1 : q'.drop n = [{ x with idx := (n : Int) }] := by
      have hn : n < q'.length := by omega
      rw [List.drop_eq_getElem_cons hn, List.drop_eq_nil_of_le (by omega)]
      rw [List.getElem?_eq_getElem hn] at hz
      rw [Option.some.inj hz]
    conv => lhs; rw [← List.take_append_drop n q', h1]
  have p1 := (QP.swp hx hy).1.trans h.1
  rw [e] at p1
  rw [List.map_append] at p1
  refine p1.trans ?_
  exact (List.perm_append_comm).trans (List.Perm.refl _)
theorem fix_up {q q' : List Nd} (h : HeapN q q.length) {i : Nat} {x : Nd} {t : Int} (hi : q[i]? = some x) {b : Bool} (he : DEnd (retime q i x t) q' i q.length b) (hb : b = false) : UpInv q' i := by
  subst hb
  have e := (he.2.1 rfl).1
  subst e
  exact DEnd.up h hi he
/-! ### The map beside -/
section
variable {m : List (Int × Value)}
theorem mget_mset (m : List (Int × Value)) (a c : Int) (v : Value) : mget (mset m a v) c = if c = a then some v else mget m c := by
  unfold mset
  split
  · rename_i h
    induction m with
    | nil => simp at h
    | cons p m ih =>
      simp only [List.map_cons, mget, List.find?_cons]
      by_cases hp : p.1 = a
      · simp only [hp, if_true]
        by_cases hc : c = a
        · subst hc; simp
        · have : ¬ a = c := fun e => hc e.symm
          simp only [hp, this, decide_false, if_neg hc]
          clear ih h
          induction m with
          | nil => rfl
          | cons r m ih2 =>
            simp only [List.map_cons, List.find?_cons]
            by_cases hr : r.1 = a
            · simp only [hr, if_true, this, decide_false]; exact ih2
            · simp only [hr, if_false]
              by_cases hrc : r.1 = c
              · simp [hrc]
              · simp only [hrc, decide_false]; exact ih2
      · have h' : m.any (fun p => p.1 = a) = true := by simpa [hp] using h
        have ih := ih h'
        simp only [hp, if_false]
        by_cases hpc : p.1 = c
        · have : ¬ c = a := fun e => hp (hpc.trans e)
          simp [hpc, this]
        · simp only [hpc, decide_false]; exact ih
  · rename_i h
    unfold mget
    rw [List.find?_append]
    by_cases hc : c = a
    · subst hc
      have : m.find? (fun p => decide (p.1 = c)) = none := by
        rw [List.find?_eq_none]
        intro p hp hpa
        exact h (List.any_eq_true.2 ⟨p, hp, hpa⟩)
      rw [this]; simp
    · have : ¬ a = c := fun e => hc e.symm
      simp [this, hc]
theorem mset_keys (m : List (Int × Value)) (a : Int) (v : Value) : (mset m a v).map (·.1) = if m.any (fun p => p.1 = a) then m.map (·.1) else m.map (·.1) ++ [a] := by
  unfold mset
  split
  · rw [List.map_map]
    refine List.map_congr_left fun p _ => ?_
    simp only [Function.comp]; split <;> rfl
  · simp
theorem mset_nodup (h : (m.map (·.1)).Nodup) (a : Int) (v : Value) : ((mset m a v).map (·.1)).Nodup := by
  rw [mset_keys]
  split
  · exact h
  · rename_i hn
    rw [List.nodup_append]
    refine ⟨h, by simp, fun x hx y hy => ?_⟩
    simp only [List.mem_singleton] at hy
    subst hy
    rintro rfl
    obtain ⟨p, hp, e⟩ := List.mem_map.1 hx
    exact hn (List.any_eq_true.2 ⟨p, hp, by simp [e]⟩)
theorem mget_none_iff (m : List (Int × Value)) (a : Int) : mget m a = none ↔ m.any (fun p => p.1 = a) = false := by
  unfold mget
  rw [Option.map_eq_none_iff, List.find?_eq_none, List.any_eq_false]
theorem mset_length (m : List (Int × Value)) (a : Int) (v : Value) : (mset m a v).length = if mget m a = none then m.length + 1 else m.length := by
  have := congrArg List.length (mset_keys m a v)
  rw [List.length_map] at this
  rw [this]
  by_cases h : mget m a = none
  · rw [if_pos h, if_neg (by rw [(mget_none_iff m a).1 h]; simp)]; simp
  · rw [if_neg h, if_pos]
    · simp
    · cases hx : m.any (fun p => decide (p.1 = a)) with
      | true => rfl
      | false => exact absurd ((mget_none_iff m a).2 hx) h
theorem mdel_keys (m : List (Int × Value)) (a : Int) : (mdel m a).Sublist m := List.eraseP_sublist
theorem mget_mdel (h : (m.map (·.1)).Nodup) (a c : Int) : mget (mdel m a) c = if c = a then none else mget m c := by
  induction m with
  | nil => simp [mdel, mget]
  | cons p m ih =>
    simp only [List.map_cons, List.nodup_cons] at h
    unfold mdel
    by_cases hp : p.1 = a
    · rw [List.eraseP_cons_of_pos (by simp [hp])]
      by_cases hc : c = a
      · subst hc
        rw [if_pos rfl]
        unfold mget
        rw [Option.map_eq_none_iff, List.find?_eq_none]
        intro r hr hrc
        refine h.1 ?_
        rw [hp]
        exact List.mem_map.2 ⟨r, hr, by simpa using hrc⟩
      · rw [if_neg hc]
        have : ¬ p.1 = c := fun e => hc (e.symm.trans hp)
        simp [mget, List.find?_cons, this]
    · rw [List.eraseP_cons_of_neg (by simp [hp])]
      have ih := ih h.2
      unfold mget mdel at ih
      simp only [mget, List.find?_cons]
      by_cases hpc : p.1 = c
      · have : ¬ c = a := fun e => hp (hpc.trans e)
        simp [hpc, this]
      · simp only [hpc, decide_false]; exact ih
theorem mdel_length (m : List (Int × Value)) (a : Int) (h : mget m a ≠ none) : (mdel m a).length + 1 = m.length := by
  unfold mdel
  have hx : ∃ p ∈ m, decide (p.1 = a) = true := by
    cases hx : m.any (fun p => decide (p.1 = a)) with
    | true => exact List.any_eq_true.1 hx
    | false => exact absurd ((mget_none_iff m a).2 hx) h
  obtain ⟨p, hp, hpa⟩ := hx
  have := List.length_eraseP_of_mem (p := fun p : Int × Value => decide (p.1 = a)) hp hpa
  have hpos : 0 < m.length := List.length_pos_of_mem hp
  omega
end
end Go.Proofs.Ytgeggiebefonhaa
