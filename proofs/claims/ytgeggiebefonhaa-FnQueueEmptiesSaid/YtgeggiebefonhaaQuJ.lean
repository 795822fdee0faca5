/- A queue of leases and its map. -/
import Derived.Test.YtgeggiebefonhaaQuI0
set_option linter.unusedVariables false
set_option linter.unusedSimpArgs false
namespace Go.Proofs.Ytgeggiebefonhaa
open Go Go.RowKit Gw
structure QI (q : List Nd) (m : List (Int × Value)) : Prop where
  good : Good q
  heap : HeapN q q.length
  nd : (q.map Nd.id).Nodup
  mnd : (m.map (·.1)).Nodup
  ml : m.length = q.length
  mm : ∀ (i : Int) (v : Value), mget m i = some v ↔ ∃ x ∈ q, x.id = i ∧ v = .pointer (some ⟨x.b, 0, none⟩)
def dd (q : List Nd) : List (Int × Int) := q.map fun x => (x.id, x.t)
def dput (D : List (Int × Int)) (id t : Int) : List (Int × Int) := if D.any (fun p => p.1 = id) then D.map (fun p => if p.1 = id then (id, t) else p) else D ++ [(id, t)]
theorem ids_of_keys {q q' : List Nd} (h : (q.map Nd.key).Perm (q'.map Nd.key)) : (q.map Nd.id).Perm (q'.map Nd.id) := by
  have := h.map (fun k : Nat × Int × Int => k.2.1)
  simpa [List.map_map, Function.comp_def, Nd.key] using this
theorem dd_of_keys {q q' : List Nd} (h : (q.map Nd.key).Perm (q'.map Nd.key)) : (dd q).Perm (dd q') := by
  have := h.map (fun k : Nat × Int × Int => k.2)
  simpa [List.map_map, Function.comp_def, Nd.key, dd] using this
theorem mem_of_keys {q q' : List Nd} (h : (q.map Nd.key).Perm (q'.map Nd.key)) (p : Nat → Int → Prop) : (∃ x ∈ q, p x.b x.id) ↔ ∃ x ∈ q', p x.b x.id := by
  have key : ∀ {q q' : List Nd}, (q.map Nd.key).Perm (q'.map Nd.key) → (∃ x ∈ q, p x.b x.id) → ∃ x ∈ q', p x.b x.id := by
    rintro q q' h ⟨x, hx, hp⟩
    have : x.key ∈ q'.map Nd.key := h.mem_iff.1 (List.mem_map_of_mem hx)
    obtain ⟨y, hy, e⟩ := List.mem_map.1 this
    simp only [Nd.key, Prod.mk.injEq] at e
    exact ⟨y, hy, by rw [e.1, e.2.1]; exact hp⟩
  exact ⟨key h, key h.symm⟩
theorem ids_any (q : List Nd) (id : Int) : (dd q).any (fun p => p.1 = id) = true ↔ ∃ x ∈ q, x.id = id := by
  simp [dd]
theorem QI.none_ {q : List Nd} {m : List (Int × Value)} (h : QI q m) {id : Int} (hm : mget m id = none) : ∀ x ∈ q, x.id ≠ id := by
  intro x hx e
  have := (h.mm id _).2 ⟨x, hx, e, rfl⟩
  rw [hm] at this; cases this
theorem QI.new {q q' : List Nd} {m : List (Int × Value)} (h : QI q m) {b : Nat} {id t : Int} (hm : mget m id = none) (hq : QP (q ++ [⟨b, id, t, q.length⟩]) q') (hh : HeapN q' q'.length) :
    QI q' (mset m id (.pointer (some ⟨b, 0, none⟩))) ∧ (dd q').Perm (dput (dd q) id t) := by
  have hno := h.none_ hm
  have hids := ids_of_keys hq.1
  refine ⟨⟨hq.2.1 (good_push h.good b id t), hh, ?_, mset_nodup h.mnd _ _, ?_, ?_⟩, ?_⟩
  · refine hids.nodup_iff.1 ?_
    rw [List.map_append, List.nodup_append]
    refine ⟨h.nd, by simp, fun a ha c hc => ?_⟩
    simp only [List.map_cons, List.map_nil, List.mem_singleton] at hc
    subst hc
    obtain ⟨x, hx, rfl⟩ := List.mem_map.1 ha
    exact hno x hx
  · rw [mset_length, if_pos hm, h.ml, hq.2.2]; simp
  · intro i v
    rw [mget_mset]
    rw [← mem_of_keys hq.1 (fun b' id' => id' = i ∧ v = .pointer (some ⟨b', 0, none⟩))]
    by_cases e : i = id
    · subst e
      rw [if_pos rfl]
      constructor
      · intro e; cases e
        exact ⟨⟨b, i, t, q.length⟩, by simp, rfl, rfl⟩
      · rintro ⟨x, hx, e1, rfl⟩
        rcases List.mem_append.1 hx with hx | hx
        · exact absurd e1 (hno x hx)
        · simp only [List.mem_singleton] at hx; subst hx; rfl
    · rw [if_neg e, h.mm]
      constructor
      · rintro ⟨x, hx, e1, e2⟩; exact ⟨x, List.mem_append_left _ hx, e1, e2⟩
      · rintro ⟨x, hx, e1, e2⟩
        rcases List.mem_append.1 hx with hx | hx
        · exact ⟨x, hx, e1, e2⟩
        · simp only [List.mem_singleton] at hx; subst hx; exact absurd e1.symm e
  · have h1 := (dd_of_keys hq.1).symm
    have h2 : dput (dd q) id t = dd (q ++ [⟨b, id, t, q.length⟩]) := by
      unfold dput
      rw [if_neg]
      · simp [dd]
      · rw [ids_any]
        rintro ⟨x, hx, e⟩
        exact hno x hx e
    rw [h2]; exact h1
theorem retime_keys {q : List Nd} {i : Nat} {x : Nd} {t : Int} (hi : q[i]? = some x) : (retime q i x t).map Nd.id = q.map Nd.id ∧ ∀ p : Nat → Int → Prop, (∃ y ∈ retime q i x t, p y.b y.id) ↔ ∃ y ∈ q, p y.b y.id := by
  have h1 := (List.getElem?_eq_some_iff.1 hi).1
  have key : (retime q i x t).map (fun y : Nd => (y.b, y.id)) = q.map (fun y : Nd => (y.b, y.id)) := by
    unfold retime
    rw [List.map_set]
    refine set_self ?_
    simp [hi]
  constructor
  · have := congrArg (List.map (·.2)) key
    simpa [List.map_map, Function.comp_def] using this
  · intro p
    have hm : ∀ l : List Nd, (∃ y ∈ l, p y.b y.id) ↔ ∃ k ∈ l.map (fun y : Nd => (y.b, y.id)), p k.1 k.2 := by
      intro l
      constructor
      · rintro ⟨y, hy, h⟩; exact ⟨_, List.mem_map_of_mem hy, h⟩
      · rintro ⟨k, hk, h⟩
        obtain ⟨y, hy, rfl⟩ := List.mem_map.1 hk
        exact ⟨y, hy, h⟩
    rw [hm, hm, key]
theorem dd_retime {q : List Nd} (nd : (q.map Nd.id).Nodup) {i : Nat} {x : Nd} {t : Int} (hi : q[i]? = some x) : dd (retime q i x t) = dput (dd q) x.id t := by
  have h1 := (List.getElem?_eq_some_iff.1 hi).1
  have hany : (dd q).any (fun p => p.1 = x.id) = true := (ids_any q x.id).2 ⟨x, List.mem_of_getElem? hi, rfl⟩
  unfold dput
  rw [if_pos hany]
  unfold retime dd
  rw [List.map_set, List.map_map]
  apply List.ext_getElem?
  intro k
  rw [List.getElem?_set, List.getElem?_map, List.getElem?_map]
  by_cases e : i = k
  · subst e
    have hxi : q[i] = x := (List.getElem?_eq_some_iff.1 hi).2
    simp [h1, hxi]
  · rw [if_neg e]
    cases hk : q[k]? with
    | none => rfl
    | some y =>
      have hne : ¬ y.id = x.id := by
        intro he
        have hk' := (List.getElem?_eq_some_iff.1 hk).1
        have e1 : (q.map Nd.id)[k]'(by simpa using hk') = (q.map Nd.id)[i]'(by simpa using h1) := by
          simp only [List.getElem_map]
          rw [(List.getElem?_eq_some_iff.1 hk).2, (List.getElem?_eq_some_iff.1 hi).2, he]
        have pw := List.pairwise_iff_getElem.1 nd
        rcases Nat.lt_or_gt_of_ne e with hlt | hlt
        · exact pw i k (by simpa using h1) (by simpa using hk') hlt e1.symm
        · exact pw k i (by simpa using hk') (by simpa using h1) hlt e1
      simp [hne]
theorem QI.old {q q' : List Nd} {m : List (Int × Value)} (h : QI q m) {i : Nat} {x : Nd} {t : Int} (hi : q[i]? = some x) (hq : QP (retime q i x t) q') (hh : HeapN q' q'.length) : QI q' m ∧ (dd q').Perm (dput (dd q) x.id t) := by
  obtain ⟨k1, k2⟩ := retime_keys (t := t) hi
  refine ⟨⟨hq.2.1 (good_retime h.good hi), hh, ?_, h.mnd, ?_, ?_⟩, ?_⟩
  · exact (ids_of_keys hq.1).nodup_iff.1 (by rw [k1]; exact h.nd)
  · rw [h.ml, hq.2.2]; simp [retime]
  · intro c v
    rw [← mem_of_keys hq.1 (fun b' id' => id' = c ∧ v = .pointer (some ⟨b', 0, none⟩)), k2 (fun b' id' => id' = c ∧ v = .pointer (some ⟨b', 0, none⟩))]
    exact h.mm c v
  · rw [← dd_retime h.nd hi]; exact (dd_of_keys hq.1).symm
theorem QI.pop {q q' : List Nd} {m : List (Int × Value)} (h : QI q m) {x : Nd} (hp : (q.map Nd.key).Perm (x.key :: q'.map Nd.key)) (hg : Good q → Good q') (hh : HeapN q' q'.length) : QI q' (mdel m x.id) ∧ (dd q).Perm ((x.id, x.t) :: dd q') := by
  have hp' : (q.map Nd.key).Perm ((x :: q').map Nd.key) := hp
  have hids := ids_of_keys hp'
  have hnd : ((x :: q').map Nd.id).Nodup := hids.nodup_iff.1 h.nd
  simp only [List.map_cons, List.nodup_cons] at hnd
  have hlen : q.length = q'.length + 1 := by have := hp.length_eq; simpa using this
  have hmx : mget m x.id = some (.pointer (some ⟨x.b, 0, none⟩)) := (h.mm _ _).2 ((mem_of_keys hp' (fun b' id' => id' = x.id ∧ Value.pointer (some ⟨x.b, 0, none⟩) = .pointer (some ⟨b', 0, none⟩))).2 ⟨x, by simp, rfl, rfl⟩)
  refine ⟨⟨hg h.good, hh, hnd.2, h.mnd.sublist ((mdel_keys m x.id).map _), ?_, ?_⟩, dd_of_keys hp'⟩
  · have := mdel_length m x.id (by rw [hmx]; simp)
    have := h.ml
    omega
  · intro c v
    rw [mget_mdel h.mnd]
    by_cases e : c = x.id
    · subst e
      rw [if_pos rfl]
      constructor
      · intro e; cases e
      · rintro ⟨y, hy, e, _⟩
        exact absurd (List.mem_map.2 ⟨y, hy, e⟩) hnd.1
    · rw [if_neg e, h.mm, mem_of_keys hp' (fun b' id' => id' = c ∧ v = .pointer (some ⟨b', 0, none⟩))]
      constructor
      · rintro ⟨y, hy, e1, e2⟩
        rcases List.mem_cons.1 hy with rfl | hy
        · exact absurd e1.symm e
        · exact ⟨y, hy, e1, e2⟩
      · rintro ⟨y, hy, e1, e2⟩; exact ⟨y, List.mem_cons_of_mem _ hy, e1, e2⟩
theorem qp_find {q q' : List Nd} {b : Nat} {id t k : Int} (h : QP (q ++ [⟨b, id, t, k⟩]) q') : ∃ (j : Nat) (k' : Int), q'[j]? = some (⟨b, id, t, k'⟩ : Nd) := by
  have : ((b, id, t) : Nat × Int × Int) ∈ q'.map Nd.key := h.1.mem_iff.1 (by simp [Nd.key])
  obtain ⟨y, hy, e⟩ := List.mem_map.1 this
  obtain ⟨j, hj, ej⟩ := List.getElem_of_mem hy
  obtain ⟨b', id', t', k'⟩ := y
  simp only [Nd.key, Prod.mk.injEq] at e
  obtain ⟨rfl, rfl, rfl⟩ := e
  exact ⟨j, k', by rw [List.getElem?_eq_getElem hj, ej]⟩
theorem retime_at {q : List Nd} {i : Nat} {x : Nd} {t : Int} (hi : q[i]? = some x) : (encs (retime q i x t))[i]? = some (x.b, [.int .i64 x.id, .int .i64 (t / 1000000000), .int .i64 (t % 1000000000), .bool true, .int .i64 x.idx]) := by
  have h1 := (List.getElem?_eq_some_iff.1 hi).1
  simp [encs, retime, h1, Nd.enc, Nd.cells]
theorem retime_encs {q : List Nd} {i : Nat} {x : Nd} {t : Int} : (encs q).set i (x.b, [.int .i64 x.id, .int .i64 (t / 1000000000), .int .i64 (t % 1000000000), .bool true, .int .i64 x.idx]) = encs (retime q i x t) := by
  simp [encs, retime, List.map_set, Nd.enc, Nd.cells]
theorem retime_ptrs {q : List Nd} {i : Nat} {x : Nd} {t : Int} (hi : q[i]? = some x) : ptrs q = ptrs (retime q i x t) := by
  unfold ptrs retime
  rw [List.map_set]
  exact (set_self (by simp [hi])).symm
theorem retime_len (q : List Nd) (i : Nat) (x : Nd) (t : Int) : (retime q i x t).length = q.length := by simp [retime]
end Go.Proofs.Ytgeggiebefonhaa
