/- Rows copied. -/
import Derived.Test.YtgeggiebefonhaaHdC0
import Derived.Test.YtgeggiebefonhaaGwY
set_option linter.unusedVariables false
set_option linter.unusedSimpArgs false
namespace Go.Proofs.Ytgeggiebefonhaa
open Go Go.RowKit Gw

theorem ones_RWc (x : RW) : ∀ u ∈ x.cells, u.oneCell' = true := by
  intro u hu
  simp only [RW.cells, List.mem_cons, List.not_mem_nil, or_false] at hu
  rcases hu with rfl | rfl | rfl | rfl | rfl | rfl | rfl | rfl | rfl <;> rfl
theorem ones_RW (L : List RW) : ∀ u ∈ L.flatMap RW.cells, u.oneCell' = true := by
  intro u hu
  obtain ⟨x, hx, h⟩ := List.mem_flatMap.1 hu
  exact ones_RWc x u h
theorem nil_of_none {R : HP} {sz m c : Nat} {v : Value} {sa : Option Addr} {xs : List Value} (h : RS R sz v m xs) (hv : v = .slice sa m c) (hs : sa = none) : m = 0 := by
  rcases Nat.eq_zero_or_pos m with h0 | h0
  · exact h0
  · obtain ⟨b, off, cap, e, _⟩ := h.at_ h0
    rw [hv, hs] at e; cases e
theorem rw_flen (M : List RW) : (M.flatMap RW.cells).length = M.length * 9 := by
  induction M with
  | nil => rfl
  | cons a M ih => rw [List.flatMap_cons, List.length_append, ih, RW.len, List.length_cons]; omega
theorem rw_set (M : List RW) (i : Nat) (y : RW) (hi : i < M.length) : List.take (i * 9) (M.flatMap RW.cells) ++ y.cells ++ List.drop (i * 9 + 9) (M.flatMap RW.cells) = (M.set i y).flatMap RW.cells := by
  induction M generalizing i with
  | nil => simp at hi
  | cons a M ih =>
    have hl : a.cells.length = 9 := RW.len a
    cases i with
    | zero => simp [List.drop_append, List.drop_eq_nil_of_le (by omega : a.cells.length ≤ 9), hl]
    | succ i =>
      have := ih i (by simpa using hi)
      rw [List.flatMap_cons, show (i + 1) * 9 = a.cells.length + i * 9 by omega, show a.cells.length + i * 9 + 9 = a.cells.length + (i * 9 + 9) by omega, List.take_append, List.drop_append, List.take_of_length_le (by omega), List.drop_eq_nil_of_le (by omega), Nat.add_sub_cancel_left, Nat.add_sub_cancel_left, List.nil_append, List.set_cons_succ, List.flatMap_cons, ← this]
      simp [List.append_assoc]

set_option maxHeartbeats 400000 in
theorem hClone (R : HP) (v : Value) (L : List RW) (hL : RS R 9 v L.length (L.flatMap RW.cells)) (hl : L.length ≤ 1000) :
    Tri Try.prog 15 #[v] R [] (fun v__ post__ => ∃ (v' : Value), v__ = v' ∧ post__ = [sl 42 9 v' (List.length L) (L.flatMap RW.cells)]) := by
  obtain ⟨sa, sc, hv, hsc⟩ := RS.len hL
  refine Tri.into (n := 8) (al := [v]) Try.func15 rfl Try.ntmps15 rfl rfl fun w F H => ?_
  replace H : Holds w (ro R :: F) := H
  refine C_seq (fun K1_ hK1_ => ?_)
  refine C_reg ?_
  refine S_list (T_val (v := (Value.slice none 0 0)) (x_assign rfl) ?_)
  refine wpList_nil ?_
  refine (X_then (hK1_ _ _ ?_))
  clear hK1_
  refine C_seq (fun K2_ hK2_ => ?_)
  refine C_seq (fun K3_ hK3_ => ?_)
  refine C_reg ?_
  refine S_list (T_val (v := v) (x_move rfl) ?_)
  refine S_list (T_val (v := (Value.bool (decide (sa = none)))) (x_nilEq rfl hv rfl Try.underlying34) ?_)
  refine wpList_nil ?_
  refine (X_then (hK3_ _ _ ?_))
  clear hK3_
  refine C_cond (b := decide (sa = none)) rfl (fun c4_t => ?_) (fun c4_f => ?_)
  · have c4_tp : sa = none := of_decide_eq_true c4_t
    refine C_seq (fun K5_ hK5_ => ?_)
    refine C_reg ?_
    refine S_list (T_val (v := (Value.slice none 0 0)) (x_assign rfl) ?_)
    refine wpList_nil ?_
    refine (X_then (hK5_ _ _ ?_))
    clear hK5_
    refine C_ret (X_thenR ?_)
    refine R_any (v := (Value.slice none 0 0)) (run_results1 rfl rfl) ?_
    have hL0 : L = [] := List.eq_nil_of_length_eq_zero (nil_of_none hL hv c4_tp)
    have H6_ : Holds w (sl 42 9 (Value.slice none 0 0) 0 [] :: ro R :: F) := Holds.add_nil H 42 9
    have H7_ : Holds w (sl 42 9 (Value.slice none 0 0) (List.length L) (L.flatMap RW.cells) :: ro R :: F) := cast2 (P := fun (c__ : List Value) (k__ : Nat) => Holds w (sl 42 9 (Value.slice none 0 0) k__ c__ :: ro R :: F)) (by rw [hL0]; rfl : [] = L.flatMap RW.cells) (by rw [hL0]; rfl : 0 = (List.length L)) H6_
    have H8_ : Holds w (ro R :: sl 42 9 (Value.slice none 0 0) (List.length L) (L.flatMap RW.cells) :: F) := (Holds.bring (Holds.bring H7_ 0 rfl) 1 rfl)
    exact ⟨_, [sl 42 9 (Value.slice none 0 0) (List.length L) (L.flatMap RW.cells)], rfl, ⟨(Value.slice none 0 0), (rfl : (Value.slice none 0 0) = ((Value.slice none 0 0))), rfl⟩, (Same.refl w), H8_⟩
  · have c4_fp : ¬ (sa = none) := of_decide_eq_false c4_f
    refine C_skip (X_then (hK2_ _ _ ?_))
    clear hK2_
    refine C_seq (fun K9_ hK9_ => ?_)
    refine C_reg ?_
    refine S_list (T_new (obj := .cells #[] 42) (f := fun b__ => .slice (some ⟨b__, 0, none⟩) 0 0) (A := fun b__ => cl b__ 42 []) (by kernel_rfl) (fun l h => h.alloc _ _) H ?_)
    intro b10_ w11_ S13_ H12_
    replace H12_ : Holds w11_ (cl b10_ 42 [] :: ro R :: F) := H12_
    have S14_ := Same.trans (Same.refl w) S13_
    refine S_list (T_val (v := v) (x_move rfl) ?_)
    have H15_ : Holds w11_ (cl b10_ 42 ([] ++ [] ++ []) :: ro R :: F) := cast1 (P := fun (c__ : List Value) => Holds w11_ (cl b10_ 42 c__ :: ro R :: F)) (by kernel_rfl : [] = [] ++ [] ++ []) H12_
    have H16_ : Holds w11_ (sl 42 9 (Value.slice (some ⟨b10_, 0, none⟩) 0 0) 0 [] :: ro R :: F) := Holds.to_sl H15_ 0 [] [] (xs := []) (m := 0) (cap := 0) (sz := 9) rfl (by kernel_rfl) (by kernel_rfl) (by omega)
    refine S_list (T_append rfl rfl Try.underlying34 z42 rfl (by decide) H16_ 0 rfl (RS.src hL (Holds.ro_at H16_ 1 rfl) Try.underlying34 (ones_RW _)) (by first | omega | (simp only [List.length_append, List.length_cons, List.length_nil]; omega)) ?_)
    intro v17_ w18_ S20_ H19_
    replace H19_ : Holds w18_ (sl 42 9 v17_ (0 + L.length) ([] ++ (L.flatMap RW.cells)) :: ro R :: F) := H19_
    have S21_ := Same.trans S14_ S20_
    refine S_list (T_val (v := v17_) (x_assign rfl) ?_)
    refine wpList_nil ?_
    refine (X_then (hK9_ _ _ ?_))
    clear hK9_
    refine C_ret ?_
    refine R_any (v := v17_) (run_results1 rfl rfl) ?_
    have H22_ : Holds w18_ (sl 42 9 v17_ (List.length L) (L.flatMap RW.cells) :: ro R :: F) := cast2 (P := fun (c__ : List Value) (k__ : Nat) => Holds w18_ (sl 42 9 v17_ k__ c__ :: ro R :: F)) ((by first | rfl | (simp [RW.cells, ZR.cells, RV.cells, MR.cells]; done)) : [] ++ (L.flatMap RW.cells) = L.flatMap RW.cells) ((by first | rfl | omega | (simp; done) | (simp; omega)) : 0 + L.length = (List.length L)) H19_
    have H23_ : Holds w18_ (ro R :: sl 42 9 v17_ (List.length L) (L.flatMap RW.cells) :: F) := (Holds.bring (Holds.bring H22_ 0 rfl) 1 rfl)
    exact ⟨_, [sl 42 9 v17_ (List.length L) (L.flatMap RW.cells)], rfl, ⟨v17_, rfl, rfl⟩, S21_, H23_⟩
end Go.Proofs.Ytgeggiebefonhaa
