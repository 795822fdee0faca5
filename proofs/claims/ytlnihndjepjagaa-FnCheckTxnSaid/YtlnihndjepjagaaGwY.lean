/- The own words of these proofs: maps with any keys. -/
import Derived.Test.YtlnihndjepjagaaGwX
set_option linter.unusedVariables false
set_option linter.unusedSimpArgs false
set_option linter.unusedSectionVars false
namespace Go.Proofs.Ytlnihndjepjagaa.Gw
open Go Go.RowKit
section
variable {α : Type} [DecidableEq α] {m : List (α × Value)}
theorem mget_msetG (m : List (α × Value)) (a c : α) (v : Value) : mget (mset m a v) c = if c = a then some v else mget m c := by
  unfold mset
  split
  · rename_i h
    induction m with
    | nil => simp at h
    | cons p m ih =>
      simp only [List.map_cons, mget, List.find?_cons]
      by_cases hp : p.1 = a
      · simp only [hp, if_true]
        by_cases hc : c = a
        · subst hc; simp
        · have : ¬ a = c := fun e => hc e.symm
          simp only [hp, this, decide_false, if_neg hc]
          clear ih h
          induction m with
          | nil => rfl
          | cons r m ih2 =>
            simp only [List.map_cons, List.find?_cons]
            by_cases hr : r.1 = a
            · simp only [hr, if_true, this, decide_false]; exact ih2
            · simp only [hr, if_false]
              by_cases hrc : r.1 = c
              · simp [hrc]
              · simp only [hrc, decide_false]; exact ih2
      · have h' : m.any (fun p => p.1 = a) = true := by simpa [hp] using h
        have ih := ih h'
        simp only [hp, if_false]
        by_cases hpc : p.1 = c
        · have : ¬ c = a := fun e => hp (hpc.trans e)
          simp [hpc, this]
        · simp only [hpc, decide_false]; exact ih
  · rename_i h
    unfold mget
    rw [List.find?_append]
    by_cases hc : c = a
    · subst hc
      have : m.find? (fun p => decide (p.1 = c)) = none := by
        rw [List.find?_eq_none]
        intro p hp hpa
        exact h (List.any_eq_true.2 ⟨p, hp, hpa⟩)
      rw [this]; simp
    · have : ¬ a = c := fun e => hc e.symm
      simp [this, hc]
theorem mset_keysG (m : List (α × Value)) (a : α) (v : Value) : (mset m a v).map (·.1) = if m.any (fun p => p.1 = a) then m.map (·.1) else m.map (·.1) ++ [a] := by
  unfold mset
  split
  · rw [List.map_map]
    refine List.map_congr_left fun p _ => ?_
    simp only [Function.comp]; split <;> rfl
  · simp
theorem mset_nodupG (h : (m.map (·.1)).Nodup) (a : α) (v : Value) : ((mset m a v).map (·.1)).Nodup := by
  rw [mset_keysG]
  split
  · exact h
  · rename_i hn
    rw [List.nodup_append]
    refine ⟨h, by simp, fun x hx y hy => ?_⟩
    simp only [List.mem_singleton] at hy
    subst hy
    rintro rfl
    obtain ⟨p, hp, e⟩ := List.mem_map.1 hx
    exact hn (List.any_eq_true.2 ⟨p, hp, by simp [e]⟩)
theorem mget_none_iffG (m : List (α × Value)) (a : α) : mget m a = none ↔ m.any (fun p => p.1 = a) = false := by
  unfold mget
  rw [Option.map_eq_none_iff, List.find?_eq_none, List.any_eq_false]
theorem mset_lengthG (m : List (α × Value)) (a : α) (v : Value) : (mset m a v).length = if mget m a = none then m.length + 1 else m.length := by
  have := congrArg List.length (mset_keysG m a v)
  rw [List.length_map] at this
  rw [this]
  by_cases h : mget m a = none
  · rw [if_pos h, if_neg (by rw [(mget_none_iffG m a).1 h]; simp)]; simp
  · rw [if_neg h, if_pos]
    · simp
    · cases hx : m.any (fun p => decide (p.1 = a)) with
      | true => rfl
      | false => exact absurd ((mget_none_iffG m a).2 hx) h
end
section
variable {P : Program} {n : Nat} {e : Env} {w : World} {K : Value → World → Prop} {d : Option Nat} {ty : TypeId} {pos : String} {af : Array Edge} {g : Option (Nat × Bool)} {l : List SP}
/-- An element of several cells, put into a slice of ours. -/
theorem T_storeSlN {t T bb sz m k s : Nat} {z : Option Value} {x y : Operand} {off : Nat} {b : Nat} {v : Value} {vs xs : List Value} (hx : ev n e x = .pointer (some ⟨b, off, none⟩)) (hy : ev n e y = .agg vs.toArray) (hz : tin P t = some (s, bb, z))
    (hs : vs.length = s) (hv : ∀ u ∈ vs, u.oneCell' = true) (h : Holds w l) (i : Nat) (hi : l[i]? = some (sl T sz v m xs)) (hk : k + vs.length ≤ xs.length) (hs0 : 0 < vs.length) (hb : b = sb v) (ho : off = so v + k)
    (c : ∀ w', Same w w' → Holds w' (l.set i (sl T sz v m (xs.take k ++ vs ++ xs.drop (k + vs.length)))) → K undef w') :
    Stp P n e ⟨d, .store t x y, ty, pos, af, g⟩ w K := by
  subst hb; subst ho
  have hlen : xs.length = m * sz := (h.sl_RSw i hi).1
  have hm : 0 < m := by
    rcases Nat.eq_zero_or_pos m with h0 | h0
    · rw [h0, Nat.zero_mul] at hlen; omega
    · exact h0
  obtain ⟨b', pr, sp, cap, hve, e2, e3, e4, hh⟩ := h.sl_open i hi hm
  have es : sb v = b' := by rw [hve]; rfl
  have eo : so v = pr.length := by rw [hve]; rfl
  have hil : i < l.length := (List.getElem?_eq_some_iff.1 hi).1
  rw [es, eo] at hx
  refine T_storeN hx hy hz hs hv hh i (T := T) (cs := pr ++ xs ++ sp) (by simp [hil]) (by simp; omega) fun w' s' h' => c w' s' ?_
  have hset : List.take (pr.length + k) (pr ++ xs ++ sp) ++ vs ++ List.drop (pr.length + k + vs.length) (pr ++ xs ++ sp) = pr ++ (xs.take k ++ vs ++ xs.drop (k + vs.length)) ++ sp := by
    have h1 : List.take (pr.length + k) (pr ++ xs ++ sp) = pr ++ xs.take k := by
      rw [List.append_assoc, List.take_append, List.take_of_length_le (by omega), show pr.length + k - pr.length = k by omega, List.take_append_of_le_length (by omega)]
    have h2 : List.drop (pr.length + k + vs.length) (pr ++ xs ++ sp) = xs.drop (k + vs.length) ++ sp := by
      rw [List.append_assoc, List.drop_append, List.drop_eq_nil_of_le (by omega), show pr.length + k + vs.length - pr.length = k + vs.length by omega, List.nil_append, List.drop_append_of_le_length (by omega)]
    rw [h1, h2]; simp [List.append_assoc]
  rw [hset, List.set_set] at h'
  have := Holds.map_at (B := sl T sz v m (xs.take k ++ vs ++ xs.drop (k + vs.length))) h' i (by simp [hil]) fun h'' a =>
    .inr ⟨b', pr, sp, cap, hve, by simp only [List.length_append, List.length_take, List.length_drop]; omega, e3, e4, a⟩
  rwa [List.set_set] at this
end
end Go.Proofs.Ytlnihndjepjagaa.Gw
