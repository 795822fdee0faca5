/- The order of a queue of leases. -/
import Derived.Test.YtgeggiebefonhaaQuB0
set_option linter.unusedVariables false
set_option linter.unusedSimpArgs false
namespace Go.Proofs.Ytgeggiebefonhaa
open Go Go.RowKit Gw
def tm (q : List Nd) (i : Nat) : Int := match q[i]? with | some x => x.t | none => 0
theorem tm_at {q : List Nd} {i : Nat} {x : Nd} (h : q[i]? = some x) : tm q i = x.t := by simp [tm, h]
theorem tm_swp {q : List Nd} {i j : Nat} {x y : Nd} (hi : q[i]? = some x) (hj : q[j]? = some y) (k : Nat) : tm (swp q i j x y) k = if k = j then tm q i else if k = i then tm q j else tm q k := by
  have h1 := (List.getElem?_eq_some_iff.1 hi).1
  have h2 := (List.getElem?_eq_some_iff.1 hj).1
  rw [tm_at hi, tm_at hj]
  by_cases e : k = j
  · subst e; rw [if_pos rfl, tm_at (swp_j hj)]
  · rw [if_neg e]
    by_cases e2 : k = i
    · subst e2; rw [if_pos rfl, tm_at (swp_i hi hj)]
    · rw [if_neg e2]
      unfold tm swp
      rw [List.getElem?_set_ne (Ne.symm e), List.getElem?_set_ne (Ne.symm e2)]
def Nd.key (x : Nd) : Nat × Int × Int := (x.b, x.id, x.t)
/-- The same nodes, each at the place that it tells. -/
def Good (q : List Nd) : Prop := ∀ (i : Nat) (x : Nd), q[i]? = some x → x.idx = i
def QP (q q' : List Nd) : Prop := (q.map Nd.key).Perm (q'.map Nd.key) ∧ (Good q → Good q') ∧ q'.length = q.length
theorem QP.refl (q : List Nd) : QP q q := ⟨List.Perm.refl _, id, rfl⟩
theorem QP.trans {a b c : List Nd} (h : QP a b) (k : QP b c) : QP a c := ⟨h.1.trans k.1, fun g => k.2.1 (h.2.1 g), k.2.2.trans h.2.2⟩
theorem good_swp {q : List Nd} {i j : Nat} {x y : Nd} (hi : q[i]? = some x) (hj : q[j]? = some y) (g : Good q) : Good (swp q i j x y) := by
  intro k z hz
  by_cases e : k = j
  · subst e; rw [swp_j hj] at hz; cases hz; rfl
  · by_cases e2 : k = i
    · subst e2; rw [swp_i hi hj] at hz; cases hz; rfl
    · unfold swp at hz
      rw [List.getElem?_set_ne (Ne.symm e), List.getElem?_set_ne (Ne.symm e2)] at hz
      exact g k z hz
theorem QP.swp {q : List Nd} {i j : Nat} {x y : Nd} (hi : q[i]? = some x) (hj : q[j]? = some y) : QP q (swp q i j x y) := by
  refine ⟨?_, good_swp hi hj, swp_len ..⟩
  have h1 := (List.getElem?_eq_some_iff.1 hi).1
  have h2 := (List.getElem?_eq_some_iff.1 hj).1
  have e : (Go.Proofs.Ytgeggiebefonhaa.swp q i j x y).map Nd.key = ((q.map Nd.key).set i ((q.map Nd.key)[j]'(by simpa using h2))).set j ((q.map Nd.key)[i]'(by simpa using h1)) := by
    simp only [Go.Proofs.Ytgeggiebefonhaa.swp, List.map_set, List.getElem_map]
    rw [(List.getElem?_eq_some_iff.1 hi).2, (List.getElem?_eq_some_iff.1 hj).2]
    rfl
  rw [e]
  exact (List.set_set_perm (by simpa using h1) (by simpa using h2)).symm
def HeapN (q : List Nd) (n : Nat) : Prop := ∀ k, 0 < k → k < n → tm q ((k - 1) / 2) ≤ tm q k
def UpInv (q : List Nd) (j : Nat) : Prop := (∀ k, 0 < k → k < q.length → k ≠ j → tm q ((k - 1) / 2) ≤ tm q k) ∧ ∀ k, 0 < k → k < q.length → (k - 1) / 2 = j → 0 < j → tm q ((j - 1) / 2) ≤ tm q k
theorem UpInv.done {q : List Nd} {j : Nat} (h : UpInv q j) (hd : (j - 1) / 2 = j ∨ ¬ tm q j < tm q ((j - 1) / 2)) : HeapN q q.length := by
  intro k h0 hk
  by_cases e : k = j
  · subst e
    rcases hd with hd | hd <;> omega
  · exact h.1 k h0 hk e
theorem UpInv.step {q : List Nd} {i j : Nat} {x y : Nd} (hi : q[i]? = some x) (hj : q[j]? = some y) (h : UpInv q j) (e : i = (j - 1) / 2) (hne : i ≠ j) (hl : y.t < x.t) : UpInv (swp q i j x y) i := by
  have hlt : tm q j < tm q i := by rw [tm_at hi, tm_at hj]; exact hl
  obtain ⟨h1, h2⟩ := h
  have hjl := (List.getElem?_eq_some_iff.1 hj).1
  have hj0 : 0 < j := by omega
  constructor
  · intro k h0 hk hki
    rw [swp_len] at hk
    have a := h1 k h0 hk
    have b := h2 k h0 hk
    obtain ⟨p, hp⟩ : ∃ p, (k - 1) / 2 = p := ⟨_, rfl⟩
    rw [hp] at a b ⊢
    rw [← e] at b
    rw [tm_swp hi hj, tm_swp hi hj, if_neg hki]
    by_cases c1 : k = j
    · subst c1
      have : p = i := by omega
      subst this
      rw [if_neg hne, if_pos rfl, if_pos rfl]; omega
    · rw [if_neg c1]
      by_cases c2 : p = j
      · subst c2; rw [if_pos rfl]; exact b rfl hj0
      · rw [if_neg c2]
        by_cases c3 : p = i
        · subst c3; rw [if_pos rfl]; have := a c1; omega
        · rw [if_neg c3]; exact a c1
  · intro k h0 hk hki hi0
    rw [swp_len] at hk
    have hil : i < q.length := by omega
    have a := h1 k h0 hk
    have b := h1 i hi0 hil hne
    obtain ⟨g, hg⟩ : ∃ g, (i - 1) / 2 = g := ⟨_, rfl⟩
    rw [hg] at b ⊢
    rw [hki] at a
    rw [tm_swp hi hj, tm_swp hi hj, if_neg (by omega : ¬ g = j), if_neg (by omega : ¬ g = i)]
    by_cases c1 : k = j
    · rw [if_pos c1]; exact b
    · rw [if_neg c1, if_neg (by omega : ¬ k = i)]
      have := a c1; omega
/-- Ahead of 'down': only node i may stand wrong. -/
def DI (q : List Nd) (i n : Nat) : Prop := (∀ k, 0 < k → k < n → k ≠ i → (k - 1) / 2 ≠ i → tm q ((k - 1) / 2) ≤ tm q k) ∧ ∀ k, 0 < k → k < n → (k - 1) / 2 = i → 0 < i → tm q ((i - 1) / 2) ≤ tm q k
/-- In 'down': not moved yet, or in order with what is above. -/
def DS (q0 q : List Nd) (i0 i n : Nat) : Prop := DI q i n ∧ ((i = i0 ∧ q = q0) ∨ (i0 < i ∧ tm q ((i - 1) / 2) ≤ tm q i)) ∧ ∀ k, n ≤ k → q[k]? = q0[k]?
def DEnd (q0 q : List Nd) (i0 n : Nat) (b : Bool) : Prop := (b = true → HeapN q n) ∧ (b = false → q = q0 ∧ ∀ k, 0 < k → k < n → (k - 1) / 2 = i0 → tm q i0 ≤ tm q k) ∧ ∀ k, n ≤ k → q[k]? = q0[k]?
theorem DS.done {q0 q : List Nd} {i0 i n : Nat} (h : DS q0 q i0 i n) (hc : ∀ k, 0 < k → k < n → (k - 1) / 2 = i → tm q i ≤ tm q k) : DEnd q0 q i0 n (decide ((i0 : Int) < (i : Int))) := by
  obtain ⟨⟨h1, h2⟩, h3, h4⟩ := h
  refine ⟨fun hb k k0 kn => ?_, fun hb => ?_, h4⟩
  · have hb := of_decide_eq_true hb
    rcases h3 with ⟨e, _⟩ | ⟨hlt, ho⟩
    · omega
    · by_cases c1 : k = i
      · subst c1; exact ho
      · by_cases c2 : (k - 1) / 2 = i
        · have := hc k k0 kn c2; rw [c2]; exact this
        · exact h1 k k0 kn c1 c2
  · have hb := of_decide_eq_false hb
    rcases h3 with ⟨e, eq⟩ | ⟨hlt, ho⟩
    · subst e; exact ⟨eq, hc⟩
    · omega
theorem DS.step {q0 q : List Nd} {i0 i j n : Nat} {x y : Nd} (hi : q[i]? = some x) (hj : q[j]? = some y) (h : DS q0 q i0 i n) (hin : i0 ≤ i) (hjn : j < n) (hp : (j - 1) / 2 = i) (hij : i < j) (hl : y.t < x.t) (hc : ∀ k, 0 < k → k < n → (k - 1) / 2 = i → tm q j ≤ tm q k) : DS q0 (swp q i j x y) i0 j n := by
  have hlt : tm q j < tm q i := by rw [tm_at hi, tm_at hj]; exact hl
  obtain ⟨⟨h1, h2⟩, h3, h4⟩ := h
  have hij' : ¬ i = j := by omega
  refine ⟨⟨fun k k0 kn kj kp => ?_, fun k k0 kn kp j0 => ?_⟩, .inr ⟨by omega, ?_⟩, fun k hk => ?_⟩
  · obtain ⟨p, hpk⟩ : ∃ p, (k - 1) / 2 = p := ⟨_, rfl⟩
    have a := h1 k k0 kn
    have b := h2 k k0 kn
    have c := hc k k0 kn
    have a' := fun i0' : 0 < i => h3
    rw [hpk] at a b c kp ⊢
    rw [tm_swp hi hj, tm_swp hi hj, if_neg kp, if_neg kj]
    by_cases c1 : p = i
    · rw [if_pos c1]
      by_cases c2 : k = i
      · omega
      · rw [if_neg c2]; exact c c1
    · rw [if_neg c1]
      by_cases c2 : k = i
      · subst c2
        rw [if_pos rfl]
        have := h2 j (by omega) hjn hp k0
        rw [hpk] at this
        exact this
      · rw [if_neg c2]; exact a c2 c1
  · have b := h1 k k0 kn (by omega) (by rw [kp]; exact fun e => hij' e.symm)
    rw [kp] at b
    rw [tm_swp hi hj, tm_swp hi hj, hp, if_neg hij', if_pos rfl, if_neg (by omega : ¬ k = j), if_neg (by omega : ¬ k = i)]
    exact b
  · rw [tm_swp hi hj, tm_swp hi hj, hp, if_neg hij', if_pos rfl, if_pos rfl]
    omega
  · rw [← h4 k hk]
    unfold swp
    rw [List.getElem?_set_ne (by omega), List.getElem?_set_ne (by omega)]
theorem ib_par {j : Nat} (hj : j < 1000000) : ibin .quo .i64 ((j : Int) - 1) 2 = some (.int .i64 (((j - 1) / 2 : Nat) : Int)) := by
  have e : ((j : Int) - 1).tdiv 2 = (((j - 1) / 2 : Nat) : Int) := by
    rcases Nat.eq_zero_or_pos j with h | h
    · subst h; rfl
    · have e1 : (j : Int) - 1 = ((j - 1 : Nat) : Int) := by omega
      rw [e1, Int.tdiv_eq_ediv_of_nonneg (by omega)]; omega
  simp only [ibin, show ¬ (2 : Int) = 0 by omega, if_false, e]
  rw [wrap_i64 (by omega) (by omega)]
end Go.Proofs.Ytgeggiebefonhaa
