/- What is done with a queue of leases, one after the other. -/
import Derived.Test.YtgeggiebefonhaaQuK0
set_option linter.unusedVariables false
set_option linter.unusedSimpArgs false
namespace Go.Proofs.Ytgeggiebefonhaa
open Go Go.RowKit Gw
structure QOp where
  kind : Int
  iD : Int
  at_ : Int
def QOp.cells (x : QOp) : List Value := [(Value.int .i64 x.kind), (Value.int .i64 x.iD), (Value.int .i64 x.at_)]
theorem QOp.len (x : QOp) : x.cells.length = 3 := rfl
structure QAns where
  ok : Bool
  iD : Int
  at_ : Int
  n : Int
def QAns.cells (x : QAns) : List Value := [(Value.bool x.ok), (Value.int .i64 x.iD), (Value.int .i64 x.at_), (Value.int .i64 x.n)]
theorem QAns.len (x : QAns) : x.cells.length = 4 := rfl
def QStep (op : QOp) (D : List (Int × Int)) (a : QAns) (D' : List (Int × Int)) : Prop :=
  (op.kind = 1 ∧ a = ⟨true, 0, 0, 0⟩ ∧ D'.Perm (dput D op.iD op.at_)) ∨
  (op.kind = 2 ∧ D' = D ∧ ((D = [] ∧ a = ⟨false, 0, 0, 0⟩) ∨ ∃ p, p ∈ D ∧ (∀ r ∈ D, p.2 ≤ r.2) ∧ a = ⟨true, p.1, p.2, 0⟩)) ∨
  (op.kind = 3 ∧ ((D = [] ∧ D' = [] ∧ a = ⟨false, 0, 0, 0⟩) ∨ ∃ p, D.Perm (p :: D') ∧ (∀ r ∈ D, p.2 ≤ r.2) ∧ a = ⟨true, p.1, p.2, 0⟩)) ∨
  (op.kind = 4 ∧ D' = D ∧ a = ⟨true, 0, 0, D.length⟩)
inductive QRun : List QOp → List QAns → List (Int × Int) → Prop
  | nil : QRun [] [] []
  | snoc {ops : List QOp} {an : List QAns} {D D' : List (Int × Int)} {op : QOp} {a : QAns} : QRun ops an D → QStep op D a D' → QRun (ops ++ [op]) (an ++ [a]) D'
theorem QRun.next {l : List QOp} {k : Nat} {an : List QAns} {D D' : List (Int × Int)} {op : QOp} (h : QRun (l.take k) an D) (hx : l[k]? = some op) (a : QAns) (hs : QStep op D a D') : QRun (l.take (k + 1)) (an ++ [a]) D' := by
  rw [List.take_add_one, hx]
  exact h.snoc hs
def TB (D : List (Int × Int)) : Prop := ∀ p ∈ D, 0 ≤ p.2 ∧ p.2 ≤ 1152921504606846976
theorem TB.nil : TB [] := fun p h => by cases h
theorem mem_dput {D : List (Int × Int)} {id t : Int} {p : Int × Int} (h : p ∈ dput D id t) : p ∈ D ∨ p = (id, t) := by
  unfold dput at h
  split at h
  · obtain ⟨r, hr, e⟩ := List.mem_map.1 h
    split at e
    · exact .inr e.symm
    · exact .inl (e ▸ hr)
  · rcases List.mem_append.1 h with h | h
    · exact .inl h
    · exact .inr (by simpa using h)
theorem TB.put {D D' : List (Int × Int)} (h : TB D) {id t : Int} (h1 : 0 ≤ t) (h2 : t ≤ 1152921504606846976) (p : D'.Perm (dput D id t)) : TB D' := by
  intro r hr
  rcases mem_dput (p.mem_iff.1 hr) with hr | rfl
  · exact h r hr
  · exact ⟨h1, h2⟩
theorem TB.pop {D D' : List (Int × Int)} (h : TB D) {r : Int × Int} (p : D.Perm (r :: D')) : TB D' := fun x hx => h x (p.mem_iff.2 (List.mem_cons_of_mem _ hx))
theorem dd_len (q : List Nd) : (dd q).length = q.length := by simp [dd]
theorem dput_len (D : List (Int × Int)) (id t : Int) : (dput D id t).length ≤ D.length + 1 := by unfold dput; split <;> simp
theorem le_put {q q' : List Nd} {k : Nat} {id t : Int} (h : q.length ≤ k) (p : (dd q').Perm (dput (dd q) id t)) : q'.length ≤ k + 1 := by
  have a := p.length_eq
  have b := dput_len (dd q) id t
  rw [dd_len] at a b
  omega
theorem le_pop {q q' : List Nd} {k : Nat} {r : Int × Int} (h : q.length ≤ k) (p : (dd q).Perm (r :: dd q')) : q'.length ≤ k + 1 := by
  have a := p.length_eq
  simp [dd] at a
  omega
theorem QI.nil : QI [] [] := ⟨fun i x h => by simp at h, fun k h0 hk => by simp at hk, by simp, by simp, rfl, fun i v => by simp [mget]⟩
theorem least_dd {q : List Nd} {m : List (Int × Value)} (h : QI q m) {x : Nd} (hx : q[0]? = some x) : ∀ r ∈ dd q, ((x.id, x.t) : Int × Int).2 ≤ r.2 := by
  intro r hr
  obtain ⟨y, hy, rfl⟩ := List.mem_map.1 hr
  exact h.heap.least' hx y hy
theorem dd_nil {q : List Nd} {m : List (Int × Value)} (h : QI q m) (hm : m.length = 0) : dd q = [] := by
  have := h.ml
  have : q = [] := List.eq_nil_of_length_eq_zero (by omega)
  subst this; rfl
end Go.Proofs.Ytgeggiebefonhaa
