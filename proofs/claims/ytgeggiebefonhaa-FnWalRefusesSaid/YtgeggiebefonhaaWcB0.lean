/- A row copied; an element put behind it. -/
import Derived.Test.YtgeggiebefonhaaWcA0
set_option linter.unusedVariables false
set_option linter.unusedSimpArgs false
namespace Go.Proofs.Ytgeggiebefonhaa
open Go Go.RowKit Gw

theorem ones_WRc (x : WR) : ∀ u ∈ x.cells, u.oneCell' = true := by
  intro u hu
  simp only [WR.cells, List.mem_cons, List.not_mem_nil, or_false] at hu
  rcases hu with rfl | rfl | rfl | rfl | rfl | rfl <;> rfl
theorem ones_WR (L : List WR) : ∀ u ∈ L.flatMap WR.cells, u.oneCell' = true := by
  intro u hu
  obtain ⟨x, hx, h⟩ := List.mem_flatMap.1 hu
  exact ones_WRc x u h
theorem nil_of_none {R : HP} {sz m c : Nat} {v : Value} {sa : Option Addr} {xs : List Value} (h : RS R sz v m xs) (hv : v = .slice sa m c) (hs : sa = none) : m = 0 := by
  rcases Nat.eq_zero_or_pos m with h0 | h0
  · exact h0
  · obtain ⟨b, off, cap, e, _⟩ := h.at_ h0
    rw [hv, hs] at e; cases e

set_option maxHeartbeats 400000 in
theorem wClone (R : HP) (v : Value) (L : List WR) (hL : RS R 6 v L.length (L.flatMap WR.cells)) (hl : L.length ≤ 1000) :
    Tri Try.prog 22 #[v] R [] (fun v__ post__ => ∃ (v' : Value), v__ = v' ∧ post__ = [sl 63 6 v' (List.length L) (L.flatMap WR.cells)]) := by
  obtain ⟨sa, sc, hv, hsc⟩ := RS.len hL
  refine Tri.into (n := 8) (al := [v]) Try.func22 rfl Try.ntmps22 rfl rfl fun w F H => ?_
  replace H : Holds w (ro R :: F) := H
  refine C_seq (fun K1_ hK1_ => ?_)
  refine C_reg ?_
  refine S_list (T_val (v := (Value.slice none 0 0)) (x_assign rfl) ?_)
  refine wpList_nil ?_
  refine (X_then (hK1_ _ _ ?_))
  clear hK1_
  refine C_seq (fun K2_ hK2_ => ?_)
  refine C_seq (fun K3_ hK3_ => ?_)
  refine C_reg ?_
  refine S_list (T_val (v := v) (x_move rfl) ?_)
  refine S_list (T_val (v := (Value.bool (decide (sa = none)))) (x_nilEq rfl hv rfl Try.underlying49) ?_)
  refine wpList_nil ?_
  refine (X_then (hK3_ _ _ ?_))
  clear hK3_
  refine C_cond (b := decide (sa = none)) rfl (fun c4_t => ?_) (fun c4_f => ?_)
  · have c4_tp : sa = none := of_decide_eq_true c4_t
    refine C_seq (fun K5_ hK5_ => ?_)
    refine C_reg ?_
    refine S_list (T_val (v := (Value.slice none 0 0)) (x_assign rfl) ?_)
    refine wpList_nil ?_
    refine (X_then (hK5_ _ _ ?_))
    clear hK5_
    refine C_ret (X_thenR ?_)
    refine R_any (v := (Value.slice none 0 0)) (run_results1 rfl rfl) ?_
    have hL0 : L = [] := List.eq_nil_of_length_eq_zero (nil_of_none hL hv c4_tp)
    have H6_ : Holds w (sl 63 6 (Value.slice none 0 0) 0 [] :: ro R :: F) := Holds.add_nil H 63 6
    have H7_ : Holds w (sl 63 6 (Value.slice none 0 0) (List.length L) (L.flatMap WR.cells) :: ro R :: F) := cast2 (P := fun (c__ : List Value) (k__ : Nat) => Holds w (sl 63 6 (Value.slice none 0 0) k__ c__ :: ro R :: F)) (by rw [hL0]; rfl : [] = L.flatMap WR.cells) (by rw [hL0]; rfl : 0 = (List.length L)) H6_
    have H8_ : Holds w (ro R :: sl 63 6 (Value.slice none 0 0) (List.length L) (L.flatMap WR.cells) :: F) := (Holds.bring (Holds.bring H7_ 0 rfl) 1 rfl)
    exact ⟨_, [sl 63 6 (Value.slice none 0 0) (List.length L) (L.flatMap WR.cells)], rfl, ⟨(Value.slice none 0 0), (rfl : (Value.slice none 0 0) = ((Value.slice none 0 0))), rfl⟩, (Same.refl w), H8_⟩
  · have c4_fp : ¬ (sa = none) := of_decide_eq_false c4_f
    refine C_skip (X_then (hK2_ _ _ ?_))
    clear hK2_
    refine C_seq (fun K9_ hK9_ => ?_)
    refine C_reg ?_
    refine S_list (T_new (obj := .cells #[] 63) (f := fun b__ => .slice (some ⟨b__, 0, none⟩) 0 0) (A := fun b__ => cl b__ 63 []) (by kernel_rfl) (fun l h => h.alloc _ _) H ?_)
    intro b10_ w11_ S13_ H12_
    replace H12_ : Holds w11_ (cl b10_ 63 [] :: ro R :: F) := H12_
    have S14_ := Same.trans (Same.refl w) S13_
    refine S_list (T_val (v := v) (x_move rfl) ?_)
    have H15_ : Holds w11_ (cl b10_ 63 ([] ++ [] ++ []) :: ro R :: F) := cast1 (P := fun (c__ : List Value) => Holds w11_ (cl b10_ 63 c__ :: ro R :: F)) (by kernel_rfl : [] = [] ++ [] ++ []) H12_
    have H16_ : Holds w11_ (sl 63 6 (Value.slice (some ⟨b10_, 0, none⟩) 0 0) 0 [] :: ro R :: F) := Holds.to_sl H15_ 0 [] [] (xs := []) (m := 0) (cap := 0) (sz := 6) rfl (by kernel_rfl) (by kernel_rfl) (by omega)
    refine S_list (T_append rfl rfl Try.underlying49 z63 rfl (by decide) H16_ 0 rfl (RS.src hL (Holds.ro_at H16_ 1 rfl) Try.underlying49 (ones_WR _)) (by first | omega | (simp only [List.length_append, List.length_cons, List.length_nil]; omega)) ?_)
    intro v17_ w18_ S20_ H19_
    replace H19_ : Holds w18_ (sl 63 6 v17_ (0 + L.length) ([] ++ (L.flatMap WR.cells)) :: ro R :: F) := H19_
    have S21_ := Same.trans S14_ S20_
    refine S_list (T_val (v := v17_) (x_assign rfl) ?_)
    refine wpList_nil ?_
    refine (X_then (hK9_ _ _ ?_))
    clear hK9_
    refine C_ret ?_
    refine R_any (v := v17_) (run_results1 rfl rfl) ?_
    have H22_ : Holds w18_ (sl 63 6 v17_ (List.length L) (L.flatMap WR.cells) :: ro R :: F) := cast2 (P := fun (c__ : List Value) (k__ : Nat) => Holds w18_ (sl 63 6 v17_ k__ c__ :: ro R :: F)) ((by first | rfl | (simp [WR.cells]; done)) : [] ++ (L.flatMap WR.cells) = L.flatMap WR.cells) ((by first | rfl | omega | (simp; done) | (simp; omega)) : 0 + L.length = (List.length L)) H19_
    have H23_ : Holds w18_ (ro R :: sl 63 6 v17_ (List.length L) (L.flatMap WR.cells) :: F) := (Holds.bring (Holds.bring H22_ 0 rfl) 1 rfl)
    exact ⟨_, [sl 63 6 v17_ (List.length L) (L.flatMap WR.cells)], rfl, ⟨v17_, rfl, rfl⟩, S21_, H23_⟩

set_option maxHeartbeats 400000 in
theorem wInsEnd (R : HP) (vb n : Nat) (v : Value) (xs ys : List Value) (hys : ys.length = 6) (hn : n ≤ 1000) (oy : ∀ u ∈ ys, u.oneCell' = true) :
    Tri Try.prog 23 #[v, (Value.int .i64 (n : Int)), (Value.slice (some ⟨vb, 0, none⟩) 1 1)] R [sl 63 6 v n xs, clf vb 63 ys] (fun v__ post__ => ∃ (v' : Value), v__ = v' ∧ post__ = [sl 63 6 v' (n + 1) (xs ++ ys)]) := by
  refine Tri.into (n := 95) (al := [v, (Value.int .i64 (n : Int)), (Value.slice (some ⟨vb, 0, none⟩) 1 1)]) Try.func23 rfl Try.ntmps23 rfl rfl fun w F H => ?_
  replace H : Holds w (ro R :: sl 63 6 v n xs :: clf vb 63 ys :: F) := H
  refine C_seq (fun K1_ hK1_ => ?_)
  refine C_reg ?_
  refine S_list (T_val (v := (Value.slice none 0 0)) (x_assign rfl) ?_)
  refine wpList_nil ?_
  refine (X_then (hK1_ _ _ ?_))
  clear hK1_
  refine C_seq (fun K2_ hK2_ => ?_)
  refine C_reg ?_
  refine S_list (T_val (v := v) (x_move rfl) ?_)
  refine S_list (T_val (v := (Value.int .i64 (n : Int))) (x_move rfl) ?_)
  have hr3_ := Holds.sl_RSw H 1 rfl
  refine S_list (T_val (v := ((slc v n n 6))) (x_sliceRS (l := n) (h := n) rfl hr3_ Try.underlying49 z63 (by omega) rfl ⟨_, _, rfl, by omega, by omega, by omega⟩) ?_)
  refine wpList_nil ?_
  refine (X_then (hK2_ _ _ ?_))
  clear hK2_
  refine C_seq (fun K4_ hK4_ => ?_)
  refine C_reg ?_
  refine S_list (T_val (v := (Value.slice (some ⟨vb, 0, none⟩) 1 1)) (x_move rfl) ?_)
  refine S_list (T_val (v := (Value.int .i64 1)) (x_lenS rfl Try.underlying49) ?_)
  refine S_list (T_val (v := (Value.int .i64 1)) (x_assign rfl) ?_)
  refine wpList_nil ?_
  refine (X_then (hK4_ _ _ ?_))
  clear hK4_
  refine C_seq (fun K5_ hK5_ => ?_)
  refine C_seq (fun K6_ hK6_ => ?_)
  refine C_reg ?_
  refine S_list (T_val (v := (Value.int .i64 1)) (x_move rfl) ?_)
  refine S_list (T_val (v := (Value.bool false)) (x_bin rfl rfl rfl) ?_)
  refine wpList_nil ?_
  refine (X_then (hK6_ _ _ ?_))
  clear hK6_
  refine C_condF rfl ?_
  refine C_skip (X_then (hK5_ _ _ ?_))
  clear hK5_
  refine C_seq (fun K7_ hK7_ => ?_)
  refine C_reg ?_
  refine S_list (T_val (v := v) (x_move rfl) ?_)
  refine S_list (T_val (v := (Value.int .i64 (n : Int))) (x_lenSl rfl H 1 rfl Try.underlying49) ?_)
  refine S_list (T_val (v := (Value.int .i64 (n : Int))) (x_assign rfl) ?_)
  refine wpList_nil ?_
  refine (X_then (hK7_ _ _ ?_))
  clear hK7_
  refine C_seq (fun K8_ hK8_ => ?_)
  refine C_seq (fun K9_ hK9_ => ?_)
  refine C_reg ?_
  refine S_list (T_val (v := (Value.int .i64 (n : Int))) (x_move rfl) ?_)
  refine S_list (T_val (v := (Value.int .i64 (n : Int))) (x_move rfl) ?_)
  refine S_list (T_val (v := (Value.bool (decide ((n : Int) = (n : Int))))) (x_bin rfl rfl rfl) ?_)
  refine wpList_nil ?_
  refine (X_then (hK9_ _ _ ?_))
  clear hK9_
  refine C_cond (b := decide ((n : Int) = (n : Int))) rfl (fun c10_t => ?_) (fun c10_f => ?_)
  · have c10_tp : (n : Int) = (n : Int) := of_decide_eq_true c10_t
    refine C_seq (fun K11_ hK11_ => ?_)
    refine C_reg ?_
    refine S_list (T_val (v := v) (x_move rfl) ?_)
    refine S_list (T_val (v := (Value.slice (some ⟨vb, 0, none⟩) 1 1)) (x_move rfl) ?_)
    have H12_ : Holds w (ro R :: sl 63 6 v n xs :: cl vb 63 ys :: F) := Holds.clf_cl H 2 rfl
    refine S_list (T_append rfl rfl Try.underlying49 z63 rfl (by decide) H12_ 1 rfl (Holds.cl_src H12_ 2 rfl Try.underlying49 oy (m := 1) hys) (by omega) ?_)
    intro v13_ w14_ S16_ H15_
    replace H15_ : Holds w14_ (ro R :: sl 63 6 v13_ (n + 1) (xs ++ ys) :: cl vb 63 ys :: F) := H15_
    have S17_ := Same.trans (Same.refl w) S16_
    refine S_list (T_val (v := v13_) (x_assign rfl) ?_)
    refine wpList_nil ?_
    refine (X_then (hK11_ _ _ ?_))
    clear hK11_
    refine C_ret (X_thenR ?_)
    refine R_any (v := v13_) (run_results1 rfl rfl) ?_
    have H18_ : Holds w14_ (ro R :: sl 63 6 v13_ (n + 1) (xs ++ ys) :: F) := (Holds.erase (Holds.bring (Holds.bring H15_ 1 rfl) 1 rfl) 2)
    exact ⟨_, [sl 63 6 v13_ (n + 1) (xs ++ ys)], rfl, ⟨v13_, rfl, rfl⟩, S17_, H18_⟩
  · have c10_fp : ¬ ((n : Int) = (n : Int)) := of_decide_eq_false c10_f
    omega

/-- An element put in, anywhere. -/
theorem wIns (R : HP) (v : Value) (vb n i : Nat) (xs ys : List Value) (hxs : xs.length = n * 6) (hin : i ≤ n) (hys : ys.length = 6) (hn : n ≤ 1000) (ox : ∀ u ∈ xs, u.oneCell' = true) (oy : ∀ u ∈ ys, u.oneCell' = true) :
    Tri Try.prog 23 #[v, (Value.int .i64 (i : Int)), (Value.slice (some ⟨vb, 0, none⟩) 1 1)] R [sl 63 6 v n xs, clf vb 63 ys] (fun v__ post__ => ∃ (v' : Value), v__ = v' ∧ post__ = [sl 63 6 v' (n + 1) (List.take (i * 6) xs ++ ys ++ List.drop (i * 6) xs)]) := by
  intro w F hh
  by_cases he : i = n
  · subst he
    have e : List.take (i * 6) xs ++ ys ++ List.drop (i * 6) xs = xs ++ ys := by rw [List.take_of_length_le (by omega), List.drop_eq_nil_of_le (by omega), List.append_nil]
    rw [e]
    exact wInsEnd R vb i v xs ys hys hn oy w F hh
  · rcases Holds.sl_at hh 1 rfl with ⟨rfl, rfl, rfl⟩ | ⟨b, pr, sp, cap, rfl, e1, e2, e3, hh2⟩
    · omega
    · have h3 := (Holds.clf_cl hh2 2 rfl).tail
      have hne : b ≠ vb := Holds.two_ne h3
      exact wInsMid R b vb n cap i pr xs sp ys e1 e2 e3 (by omega) hys hn ox oy (Ne.symm hne) w F hh2
end Go.Proofs.Ytgeggiebefonhaa
