/- Rows with an element put in: the plain side. -/
import Derived.Test.YtgeggiebefonhaaWbG0
import Derived.Test.YtgeggiebefonhaaGwV
set_option linter.unusedVariables false
set_option linter.unusedSimpArgs false
namespace Go.Proofs.Ytgeggiebefonhaa
open Go Go.RowKit Gw
theorem mid_drop {pr xs sp : List Value} {j k : Nat} {v : Value} (h : (xs.drop k)[j]? = some v) : (pr ++ xs ++ sp)[pr.length + k + j]? = some v := by
  rw [List.getElem?_drop] at h
  have hl := (List.getElem?_eq_some_iff.1 h).1
  rw [List.append_assoc, List.getElem?_append_right (by omega), show pr.length + k + j - pr.length = k + j by omega, List.getElem?_append_left hl, h]
theorem mid_take {pr xs sp : List Value} {j k : Nat} {v : Value} (h : (xs.take k)[j]? = some v) : (pr ++ xs ++ sp)[pr.length + j]? = some v := by
  have hj : j < (xs.take k).length := (List.getElem?_eq_some_iff.1 h).1
  rw [List.length_take] at hj
  rw [List.getElem?_take] at h
  split at h
  · rw [List.append_assoc, List.getElem?_append_right (by omega), show pr.length + j - pr.length = j by omega, List.getElem?_append_left (by omega), h]
  · cases h
theorem insA {xs ys D : List Value} {a b : Nat} (hD : D.take a = xs.take a) (ha : a ≤ xs.length) (haD : a ≤ D.length) (hy : ys.length = b) (r : List Value) : List.take (a + b) (List.take a D ++ ys ++ r) = xs.take a ++ ys := by
  rw [hD]
  have : (xs.take a ++ ys).length = a + b := by rw [List.length_append, List.length_take, hy]; omega
  rw [← this, List.take_left]
theorem insB {C xs ys pr sp : List Value} {a b : Nat} (hC : C = pr ++ xs ++ sp) (ha : a + b ≤ xs.length) (hy : ys.length = b) (r : List Value) :
    List.take (pr.length + a) (List.take (pr.length + (a + b)) C ++ List.drop a xs ++ r) ++ ys ++ List.drop (pr.length + a + ys.length) (List.take (pr.length + (a + b)) C ++ List.drop a xs ++ r) = pr ++ (xs.take a ++ ys ++ xs.drop a) ++ r := by
  have e1 : List.take (pr.length + (a + b)) C = pr ++ xs.take (a + b) := by
    rw [hC, List.append_assoc, List.take_append, List.take_of_length_le (by omega), show pr.length + (a + b) - pr.length = a + b by omega, List.take_append_of_le_length ha]
  have e2 : (pr ++ xs.take (a + b)).length = pr.length + (a + b) := by rw [List.length_append, List.length_take]; omega
  rw [e1, hy]
  have e3 : List.take (pr.length + a) (pr ++ xs.take (a + b) ++ List.drop a xs ++ r) = pr ++ xs.take a := by
    rw [List.append_assoc, List.append_assoc, List.take_append, List.take_of_length_le (by omega), show pr.length + a - pr.length = a by omega, List.take_append_of_le_length (by rw [List.length_take]; omega), List.take_take, Nat.min_eq_left (by omega)]
  have e4 : List.drop (pr.length + a + b) (pr ++ xs.take (a + b) ++ List.drop a xs ++ r) = List.drop a xs ++ r := by
    rw [show pr.length + a + b = (pr ++ xs.take (a + b)).length by omega, List.append_assoc, List.drop_left]
  rw [e3, e4]; simp [List.append_assoc]
theorem flat_len6 (zs : List Value) (k : Nat) : (List.flatten (List.replicate k zs)).length = k * zs.length := by
  induction k with
  | zero => simp
  | succ k ih => rw [List.replicate_succ, List.flatten_cons, List.length_append, ih, Nat.succ_mul]; omega
end Go.Proofs.Ytgeggiebefonhaa
