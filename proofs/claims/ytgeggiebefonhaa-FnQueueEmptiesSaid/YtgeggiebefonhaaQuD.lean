/- The queue of leases, said over lists. -/
import Derived.Test.YtgeggiebefonhaaGwS
set_option linter.unusedVariables false
set_option linter.unusedSimpArgs false
namespace Go.Proofs.Ytgeggiebefonhaa
open Go Go.RowKit Gw
/-- A node: its block, its lease, its time (nanoseconds), its place. -/
structure Nd where
  b : Nat
  id : Int
  t : Int
  idx : Int
def Nd.cells (x : Nd) : List Value := [.int .i64 x.id, .int .i64 (x.t / 1000000000), .int .i64 (x.t % 1000000000), .bool true, .int .i64 x.idx]
def Nd.enc (x : Nd) : Nat × List Value := (x.b, x.cells)
def encs (q : List Nd) : List (Nat × List Value) := q.map Nd.enc
def ptrs (q : List Nd) : List Value := q.map fun x => .pointer (some ⟨x.b, 0, none⟩)
theorem ptrs_at {q : List Nd} {k : Nat} {x : Nd} (h : q[k]? = some x) : (ptrs q)[k]? = some (.pointer (some ⟨x.b, 0, none⟩)) := by simp [ptrs, h]
theorem encs_at {q : List Nd} {k : Nat} {x : Nd} (h : q[k]? = some x) : (encs q)[k]? = some (x.b, x.cells) := by simp [encs, h, Nd.enc]
theorem ptrs_len (q : List Nd) : (ptrs q).length = q.length := by simp [ptrs]
theorem ib_quoI {a b : Int} (ha : 0 ≤ a) (hb : 0 < b) (h : a < 9223372036854775808) : ibin .quo .i64 a b = some (.int .i64 (a / b)) := by
  have hq : a / b ≤ a := Int.ediv_le_self _ ha
  have h0 : 0 ≤ a / b := Int.ediv_nonneg ha (by omega)
  simp only [ibin, show ¬ b = 0 by omega, if_false, Int.tdiv_eq_ediv_of_nonneg ha, wrap_i64 (n := a / b) (by omega) (by omega)]
theorem ib_remI {a b : Int} (ha : 0 ≤ a) (hb : 0 < b) : ibin .rem .i64 a b = some (.int .i64 (a % b)) := by
  simp only [ibin, show ¬ b = 0 by omega, if_false, Int.tmod_eq_emod_of_nonneg ha]
/-- Two nodes change places. -/
def swp (q : List Nd) (i j : Nat) (x y : Nd) : List Nd := (q.set i { y with idx := i }).set j { x with idx := j }
theorem set_set_perm' {α : Type} (l : List α) (i j : Nat) (a b : α) (hi : i < l.length) (hj : j < l.length) (h : i = j → a = b) : ((l.set j a).set i b).Perm ((l.set i a).set j b) := by
  by_cases e : i = j
  · subst e; rw [h rfl]
  · let m := (l.set j a).set i b
    have hi' : i < m.length := by simp [m, hi]
    have hj' : j < m.length := by simp [m, hj]
    have p := List.set_set_perm hi' hj'
    have e1 : m[i] = b := by simp [m]
    have e2 : m[j] = a := by simp only [m]; rw [List.getElem_set_ne e]; simp
    rw [e1, e2] at p
    have e3 : (m.set i a).set j b = (l.set i a).set j b := by
      simp only [m]
      rw [List.set_set, List.set_comm _ _ (Ne.symm e), List.set_set]
    rw [e3] at p
    exact p.symm
theorem set_self {α : Type} {l : List α} {i : Nat} {x : α} (h : l[i]? = some x) : l.set i x = l := by
  apply List.ext_getElem?
  intro k
  rw [List.getElem?_set]
  split
  · rename_i e; subst e; split
    · exact h.symm
    · rename_i hh; rw [List.getElem?_eq_none (by omega)]
  · rfl
theorem swp_ptrs {q : List Nd} {i j : Nat} {x y : Nd} : ((ptrs q).set i (.pointer (some ⟨y.b, 0, none⟩))).set j (.pointer (some ⟨x.b, 0, none⟩)) = ptrs (swp q i j x y) := by simp [ptrs, swp, List.map_set]
theorem swp_len (q : List Nd) (i j : Nat) (x y : Nd) : (swp q i j x y).length = q.length := by simp [swp]
theorem swp_i {q : List Nd} {i j : Nat} {x y : Nd} (hi : q[i]? = some x) (hj : q[j]? = some y) : (swp q i j x y)[i]? = some { y with idx := i } := by
  have h1 := (List.getElem?_eq_some_iff.1 hi).1
  unfold swp
  by_cases e : j = i
  · subst e; rw [hi] at hj; cases hj; simp [h1]
  · rw [List.getElem?_set_ne e]; simp [h1]
theorem swp_j {q : List Nd} {i j : Nat} {x y : Nd} (hj : q[j]? = some y) : (swp q i j x y)[j]? = some { x with idx := j } := by
  have h1 := (List.getElem?_eq_some_iff.1 hj).1
  unfold swp; simp [h1]
theorem swp_pi {q : List Nd} {i j : Nat} {x y : Nd} (hi : q[i]? = some x) (hj : q[j]? = some y) : (ptrs (swp q i j x y))[i]? = some (.pointer (some ⟨y.b, 0, none⟩)) := by have := ptrs_at (swp_i hi hj); exact this
theorem swp_pj {q : List Nd} {i j : Nat} {x y : Nd} (hj : q[j]? = some y) : (ptrs (swp q i j x y))[j]? = some (.pointer (some ⟨x.b, 0, none⟩)) := by have := ptrs_at (swp_j (q := q) (x := x) (i := i) hj); exact this
theorem swp_fam2 {q : List Nd} {i j : Nat} {x y : Nd} (hi : q[i]? = some x) (hj : q[j]? = some y) :
    ∃ c0 c1 c2 c3 c4, ((encs q).set j (y.b, Nd.cells { y with idx := (i : Int) }))[i]? = some (x.b, [c0, c1, c2, c3, c4]) ∧ [c0, c1, c2, c3, .int .i64 (j : Int)] = Nd.cells { x with idx := (j : Int) } := by
  have h1 := (List.getElem?_eq_some_iff.1 hi).1
  by_cases e : j = i
  · subst e
    rw [hi] at hj; cases hj
    refine ⟨.int .i64 x.id, .int .i64 (x.t / 1000000000), .int .i64 (x.t % 1000000000), .bool true, .int .i64 j, ?_, rfl⟩
    simp [encs, h1, Nd.cells]
  · rw [List.getElem?_set_ne e]
    exact ⟨_, _, _, _, _, encs_at hi, rfl⟩
theorem swp_perm {q : List Nd} {i j : Nat} {x y : Nd} (hi : q[i]? = some x) (hj : q[j]? = some y) :
    (((encs q).set j (y.b, Nd.cells { y with idx := (i : Int) })).set i (x.b, Nd.cells { x with idx := (j : Int) })).Perm (encs (swp q i j x y)) := by
  have h1 := (List.getElem?_eq_some_iff.1 hi).1
  have h2 := (List.getElem?_eq_some_iff.1 hj).1
  have e : encs (swp q i j x y) = ((encs q).set i (y.b, Nd.cells { y with idx := (i : Int) })).set j (x.b, Nd.cells { x with idx := (j : Int) }) := by simp [encs, swp, List.map_set, Nd.enc]
  rw [e]
  refine set_set_perm' _ i j _ _ (by simp [encs, h1]) (by simp [encs, h2]) fun e => ?_
  subst e
  rw [hi] at hj; cases hj; rfl
end Go.Proofs.Ytgeggiebefonhaa
