/- An element put into a row. -/
import Derived.Test.YtgeggiebefonhaaWcD
set_option linter.unusedVariables false
set_option linter.unusedSimpArgs false
namespace Go.Proofs.Ytgeggiebefonhaa
open Go Go.RowKit Gw

set_option maxHeartbeats 400000 in
theorem wInsMid (R : HP) (b vb n c i : Nat) (pr xs sp ys : List Value) (hxs : xs.length = n * 6) (hsp : sp.length = (c - n) * 6) (hnc : n ≤ c) (hin : i < n) (hys : ys.length = 6) (hn : n ≤ 1000) (ox : ∀ u ∈ xs, u.oneCell' = true) (oy : ∀ u ∈ ys, u.oneCell' = true) (hbv : vb ≠ b) :
    Tri Try.prog 23 #[(Value.slice (some ⟨b, pr.length, none⟩) n c), (Value.int .i64 (i : Int)), (Value.slice (some ⟨vb, 0, none⟩) 1 1)] R [cl b 63 (pr ++ xs ++ sp), clf vb 63 ys] (fun v__ post__ => ∃ (v' : Value), v__ = v' ∧ post__ = [sl 63 6 v' (n + 1) (List.take (i * 6) xs ++ ys ++ List.drop (i * 6) xs)]) := by
  refine Tri.into (n := 95) (al := [(Value.slice (some ⟨b, pr.length, none⟩) n c), (Value.int .i64 (i : Int)), (Value.slice (some ⟨vb, 0, none⟩) 1 1)]) Try.func23 rfl Try.ntmps23 rfl rfl fun w F H => ?_
  replace H : Holds w (ro R :: cl b 63 (pr ++ xs ++ sp) :: clf vb 63 ys :: F) := H
  refine C_seq (fun K1_ hK1_ => ?_)
  refine C_reg ?_
  refine S_list (T_val (v := (Value.slice none 0 0)) (x_assign rfl) ?_)
  refine wpList_nil ?_
  refine (X_then (hK1_ _ _ ?_))
  clear hK1_
  refine C_seq (fun K2_ hK2_ => ?_)
  refine C_reg ?_
  refine S_list (T_val (v := (Value.slice (some ⟨b, pr.length, none⟩) n c)) (x_move rfl) ?_)
  refine S_list (T_val (v := (Value.int .i64 (i : Int))) (x_move rfl) ?_)
  refine S_list (T_val (v := (Value.slice (some ⟨b, pr.length + (i * 6), none⟩) (n - i) (c - i))) (x_slice (l := i) (h := n) rfl Try.underlying49 z63 rfl ⟨_, _, rfl, by omega, by omega, by omega⟩ ((by rw [if_neg (by omega)]; first | rfl | simp [add_mk]))) ?_)
  refine wpList_nil ?_
  refine (X_then (hK2_ _ _ ?_))
  clear hK2_
  refine C_seq (fun K3_ hK3_ => ?_)
  refine C_reg ?_
  refine S_list (T_val (v := (Value.slice (some ⟨vb, 0, none⟩) 1 1)) (x_move rfl) ?_)
  refine S_list (T_val (v := (Value.int .i64 1)) (x_lenS rfl Try.underlying49) ?_)
  refine S_list (T_val (v := (Value.int .i64 1)) (x_assign rfl) ?_)
  refine wpList_nil ?_
  refine (X_then (hK3_ _ _ ?_))
  clear hK3_
  refine C_seq (fun K4_ hK4_ => ?_)
  refine C_seq (fun K5_ hK5_ => ?_)
  refine C_reg ?_
  refine S_list (T_val (v := (Value.int .i64 1)) (x_move rfl) ?_)
  refine S_list (T_val (v := (Value.bool false)) (x_bin rfl rfl rfl) ?_)
  refine wpList_nil ?_
  refine (X_then (hK5_ _ _ ?_))
  clear hK5_
  refine C_condF rfl ?_
  refine C_skip (X_then (hK4_ _ _ ?_))
  clear hK4_
  refine C_seq (fun K6_ hK6_ => ?_)
  refine C_reg ?_
  refine S_list (T_val (v := (Value.slice (some ⟨b, pr.length, none⟩) n c)) (x_move rfl) ?_)
  refine S_list (T_val (v := (Value.int .i64 (n : Int))) (x_lenS rfl Try.underlying49) ?_)
  refine S_list (T_val (v := (Value.int .i64 (n : Int))) (x_assign rfl) ?_)
  refine wpList_nil ?_
  refine (X_then (hK6_ _ _ ?_))
  clear hK6_
  refine C_seq (fun K7_ hK7_ => ?_)
  refine C_seq (fun K8_ hK8_ => ?_)
  refine C_reg ?_
  refine S_list (T_val (v := (Value.int .i64 (i : Int))) (x_move rfl) ?_)
  refine S_list (T_val (v := (Value.int .i64 (n : Int))) (x_move rfl) ?_)
  refine S_list (T_val (v := (Value.bool (decide ((i : Int) = (n : Int))))) (x_bin rfl rfl rfl) ?_)
  refine wpList_nil ?_
  refine (X_then (hK8_ _ _ ?_))
  clear hK8_
  refine C_cond (b := decide ((i : Int) = (n : Int))) rfl (fun c9_t => ?_) (fun c9_f => ?_)
  · have c9_tp : (i : Int) = (n : Int) := of_decide_eq_true c9_t
    omega
  · have c9_fp : ¬ ((i : Int) = (n : Int)) := of_decide_eq_false c9_f
    refine C_skip (X_then (hK7_ _ _ ?_))
    clear hK7_
    refine C_seq (fun K10_ hK10_ => ?_)
    refine C_seq (fun K11_ hK11_ => ?_)
    refine C_reg ?_
    refine S_list (T_val (v := (Value.int .i64 (n : Int))) (x_move rfl) ?_)
    refine S_list (T_val (v := (Value.int .i64 1)) (x_move rfl) ?_)
    refine S_list (T_val (v := (Value.int .i64 ((n : Int) + 1))) (x_bin rfl rfl (ib_add (IntWalk.i64_in _ (by omega)))) ?_)
    refine S_list (T_val (v := (Value.slice (some ⟨b, pr.length, none⟩) n c)) (x_move rfl) ?_)
    refine S_list (T_val (v := (Value.int .i64 (c : Int))) (x_capS rfl Try.underlying49) ?_)
    refine S_list (T_val (v := (Value.bool (decide ((c : Int) < (n : Int) + 1)))) (x_bin rfl rfl rfl) ?_)
    refine wpList_nil ?_
    refine (X_then (hK11_ _ _ ?_))
    clear hK11_
    refine C_cond (b := decide ((c : Int) < (n : Int) + 1)) rfl (fun c12_t => ?_) (fun c12_f => ?_)
    · have c12_tp : (c : Int) < (n : Int) + 1 := of_decide_eq_true c12_t
      refine C_seq (fun K13_ hK13_ => ?_)
      refine C_reg ?_
      refine S_list (T_val (v := (Value.slice (some ⟨b, pr.length, none⟩) n c)) (x_move rfl) ?_)
      refine S_list (T_val (v := (Value.int .i64 (i : Int))) (x_move rfl) ?_)
      refine S_list (T_val (v := (Value.slice (some ⟨b, pr.length, none⟩) i c)) (x_slice (l := 0) (h := i) rfl Try.underlying49 z63 ⟨_, _, rfl, by omega, by omega, by omega⟩ rfl (by simp [Addr.add])) ?_)
      refine S_list (T_val (v := (Value.int .i64 (n : Int))) (x_move rfl) ?_)
      refine S_list (T_val (v := (Value.int .i64 1)) (x_move rfl) ?_)
      refine S_list (T_val (v := (Value.int .i64 ((n : Int) + 1))) (x_bin rfl rfl (ib_add (IntWalk.i64_in _ (by omega)))) ?_)
      refine S_list (T_val (v := (Value.int .i64 (i : Int))) (x_move rfl) ?_)
      refine S_list (T_val (v := (Value.int .i64 ((n + 1 - i : Nat) : Int))) (x_bin rfl rfl (ib_subN (x := n + 1) (y := i) (by omega) rfl (by omega) (by omega) rfl)) ?_)
      refine S_list (T_appendGrowZ (zs := [(Value.int .i64 0), (Value.bool false), (Value.int .u32 0), (Value.bool false), (Value.string ByteArray.empty), (Value.bool false)]) (m := i) (c := c) (k := n + 1 - i) (xs := List.take (i * 6) xs) (sb := b) (off := pr.length) rfl rfl rfl Try.underlying49 Try.underlying3 z63 (by rfl) (by rfl) (by decide) (by decide) (by omega) (by omega) H (by rw [List.length_take]; omega) (fun j__ v__ hv__ => Holds.cl_cell H 1 rfl (mid_take hv__)) (by omega) ?_)
      intro b14_ c15_ w17_ S19_ hc16_ H18_
      have S20_ := Same.trans (Same.refl w) S19_
      replace H18_ : Holds w17_ (cl b14_ 63 (List.take (i * 6) xs ++ List.flatten (List.replicate (n + 1 - i) [(Value.int .i64 0), (Value.bool false), (Value.int .u32 0), (Value.bool false), (Value.string ByteArray.empty), (Value.bool false)]) ++ List.flatten (List.replicate (c15_ - (i + (n + 1 - i))) [(Value.int .i64 0), (Value.bool false), (Value.int .u32 0), (Value.bool false), (Value.string ByteArray.empty), (Value.bool false)])) :: ro R :: cl b 63 (pr ++ xs ++ sp) :: clf vb 63 ys :: F) := H18_
      have he_ : i + (n + 1 - i) = n + 1 := by omega
      rw [he_]
      obtain ⟨D21_, hD22_⟩ : ∃ D, List.take (i * 6) xs ++ List.flatten (List.replicate (n + 1 - i) [(Value.int .i64 0), (Value.bool false), (Value.int .u32 0), (Value.bool false), (Value.string ByteArray.empty), (Value.bool false)]) ++ List.flatten (List.replicate (c15_ - (i + (n + 1 - i))) [(Value.int .i64 0), (Value.bool false), (Value.int .u32 0), (Value.bool false), (Value.string ByteArray.empty), (Value.bool false)]) = D := ⟨_, rfl⟩
      have H23_ : Holds w17_ (cl b14_ 63 D21_ :: ro R :: cl b 63 (pr ++ xs ++ sp) :: clf vb 63 ys :: F) := cast1 (P := fun (c__ : List Value) => Holds w17_ (cl b14_ 63 c__ :: ro R :: cl b 63 (pr ++ xs ++ sp) :: clf vb 63 ys :: F)) (hD22_ : List.take (i * 6) xs ++ List.flatten (List.replicate (n + 1 - i) [(Value.int .i64 0), (Value.bool false), (Value.int .u32 0), (Value.bool false), (Value.string ByteArray.empty), (Value.bool false)]) ++ List.flatten (List.replicate (c15_ - (i + (n + 1 - i))) [(Value.int .i64 0), (Value.bool false), (Value.int .u32 0), (Value.bool false), (Value.string ByteArray.empty), (Value.bool false)]) = D21_) H18_
      have hlD21_ : D21_.length = c15_ * 6 := by rw [← hD22_]; simp only [List.length_append, List.length_take, flat_len6, List.length_cons, List.length_nil]; omega
      have htD21_ : List.take (i * 6) D21_ = List.take (i * 6) xs := by rw [← hD22_, List.append_assoc, List.take_append_of_le_length (by rw [List.length_take]; omega), List.take_take, Nat.min_self]
      refine S_list (T_val (v := (Value.slice (some ⟨b14_, 0, none⟩) (n + 1) c15_)) (x_assign rfl) ?_)
      refine wpList_nil ?_
      refine (X_then (hK13_ _ _ ?_))
      clear hK13_
      refine C_seq (fun K24_ hK24_ => ?_)
      refine C_reg ?_
      refine S_list (T_val (v := (Value.slice (some ⟨b14_, 0, none⟩) (n + 1) c15_)) (x_move rfl) ?_)
      refine S_list (T_val (v := (Value.int .i64 (i : Int))) (x_move rfl) ?_)
      refine S_list (T_val (v := (Value.slice (some ⟨b14_, i * 6, none⟩) ((n + 1) - i) (c15_ - i))) (x_slice (l := i) (h := (n + 1)) rfl Try.underlying49 z63 rfl ⟨_, _, rfl, by omega, by omega, by omega⟩ ((by rw [if_neg (by omega)]; first | rfl | simp [add_mk]))) ?_)
      refine S_list (T_val (v := (Value.slice (some ⟨vb, 0, none⟩) 1 1)) (x_move rfl) ?_)
      have H25_ : Holds w17_ (cl b14_ 63 D21_ :: ro R :: cl b 63 (pr ++ xs ++ sp) :: cl vb 63 ys :: F) := Holds.clf_cl H23_ 3 rfl
      refine S_list (T_copyK (sz := 6) (k := 1) (ys := ys) (off := i * 6) (so := 0) (by first | rfl | congr 1) (by first | rfl | congr 1) Try.underlying49 z63 H25_ 0 rfl (show Nat.min 1 (n + 1 - i) = 1 from Nat.min_eq_left (by omega)) (hys) (fun j__ v__ hv__ => Holds.cl_cell H25_ 3 rfl (by rw [Nat.zero_add]; exact hv__)) (by first | omega | (simp only [List.length_append, List.length_take, List.length_drop, flat_len6, List.length_cons, List.length_nil]; omega)) (oy) ?_)
      intro w26_ S28_ H27_
      replace H27_ : Holds w26_ (cl b14_ 63 (List.take (i * 6) D21_ ++ ys ++ List.drop (i * 6 + List.length ys) D21_) :: ro R :: cl b 63 (pr ++ xs ++ sp) :: cl vb 63 ys :: F) := H27_
      have S29_ := Same.trans S20_ S28_
      obtain ⟨D30_, hD31_⟩ : ∃ D, List.take (i * 6) D21_ ++ ys ++ List.drop (i * 6 + List.length ys) D21_ = D := ⟨_, rfl⟩
      have H32_ : Holds w26_ (cl b14_ 63 D30_ :: ro R :: cl b 63 (pr ++ xs ++ sp) :: cl vb 63 ys :: F) := cast1 (P := fun (c__ : List Value) => Holds w26_ (cl b14_ 63 c__ :: ro R :: cl b 63 (pr ++ xs ++ sp) :: cl vb 63 ys :: F)) (hD31_ : List.take (i * 6) D21_ ++ ys ++ List.drop (i * 6 + List.length ys) D21_ = D30_) H27_
      have hlD30_ : D30_.length = c15_ * 6 := by rw [← hD31_]; simp only [List.length_append, List.length_take, List.length_drop, hys]; omega
      have htD30_ : List.take ((i + 1) * 6) D30_ = List.take (i * 6) xs ++ ys := by rw [← hD31_, show (i + 1) * 6 = i * 6 + 6 by omega]; exact insA htD21_ (by omega) (by omega) hys _
      refine wpList_nil ?_
      refine (X_then (hK24_ _ _ ?_))
      clear hK24_
      refine C_seq (fun K33_ hK33_ => ?_)
      refine A_start (S := fun w => Sub R (hp w)) (N := 9) foll rfl rfl ?_
      have H34_ : Holds w26_.drew (cl b14_ 63 D30_ :: ro R :: cl b 63 (pr ++ xs ++ sp) :: cl vb 63 ys :: F) := H32_
      have hq35_ := ((Holds.ro_at H34_ 1 rfl))
      refine A_tk 0 (v := (Value.slice (some ⟨b14_, 0, none⟩) (n + 1) c15_)) rfl (by kernel_rfl) (fun w hS => x_move rfl) hq35_ ?_
      refine A_tk 1 (v := (Value.int .i64 (i : Int))) rfl (by kernel_rfl) (fun w hS => x_move rfl) hq35_ ?_
      refine A_tk 2 (v := (Value.int .i64 1)) rfl (by kernel_rfl) (fun w hS => x_move rfl) hq35_ ?_
      refine A_tk 3 (v := (Value.int .i64 ((i : Int) + 1))) rfl (by kernel_rfl) (fun w hS => x_bin rfl rfl (ib_add (IntWalk.i64_in _ (by omega)))) hq35_ ?_
      refine A_tk 4 (v := (Value.slice (some ⟨b14_, (i + 1) * 6, none⟩) ((n + 1) - (i + 1)) (c15_ - (i + 1)))) rfl (by kernel_rfl) (fun w hS => x_slice (l := i + 1) (h := (n + 1)) rfl Try.underlying49 z63 rfl ⟨_, _, rfl, by omega, by omega, by omega⟩ ((by rw [if_neg (by omega)]; first | rfl | simp [add_mk]))) hq35_ ?_
      refine A_tk 5 (v := (Value.slice (some ⟨b, pr.length, none⟩) n c)) rfl (by kernel_rfl) (fun w hS => x_move rfl) hq35_ ?_
      refine A_tk 6 (v := (Value.int .i64 (i : Int))) rfl (by kernel_rfl) (fun w hS => x_move rfl) hq35_ ?_
      refine A_tk 7 (v := (Value.slice (some ⟨b, pr.length + (i * 6), none⟩) (n - i) (c - i))) rfl (by kernel_rfl) (fun w hS => x_slice (l := i) (h := n) rfl Try.underlying49 z63 rfl ⟨_, _, rfl, by omega, by omega, by omega⟩ ((by rw [if_neg (by omega)]; first | rfl | simp [add_mk]))) hq35_ ?_
      refine A_ready (i := 8) (rs := []) (by kernel_rfl) ?_
      refine AllR.cons ?_ AllR.nil
      refine A_op (ls' := #[true, true, true, true, true, true, true, true, true]) rfl (by kernel_rfl) (T_copyK (sz := 6) (k := n - i) (ys := List.drop (i * 6) xs) (off := (i + 1) * 6) (so := pr.length + i * 6) (by first | rfl | congr 1) (by first | rfl | congr 1) Try.underlying49 z63 H34_ 0 rfl (show Nat.min (n - i) (n + 1 - (i + 1)) = n - i from Nat.min_eq_left (by omega)) (by rw [List.length_drop]; omega) (fun j__ v__ hv__ => Holds.cl_cell H34_ 2 rfl (mid_drop hv__)) (by first | omega | (simp only [List.length_append, List.length_take, List.length_drop, flat_len6, List.length_cons, List.length_nil]; omega)) (fun u hu => ox u (List.mem_of_mem_drop hu)) ?_)
      intro w36_ S38_ H37_
      replace H37_ : Holds w36_ (cl b14_ 63 (List.take ((i + 1) * 6) D30_ ++ (List.drop (i * 6) xs) ++ List.drop ((i + 1) * 6 + List.length (List.drop (i * 6) xs)) D30_) :: ro R :: cl b 63 (pr ++ xs ++ sp) :: cl vb 63 ys :: F) := H37_
      have S39_ := Same.trans (Same.trans S29_ (Same.drew _)) S38_
      refine ⟨((Holds.ro_at H37_ 1 rfl)), ?_⟩
      refine A_done (by kernel_rfl) ?_
      refine (X_then (hK33_ _ _ ?_))
      clear hK33_
      refine C_seq (fun K40_ hK40_ => ?_)
      refine C_reg ?_
      refine S_list (T_val (v := (Value.slice (some ⟨b14_, 0, none⟩) (n + 1) c15_)) (x_move rfl) ?_)
      refine S_list (T_val (v := (Value.slice (some ⟨b14_, 0, none⟩) (n + 1) c15_)) (x_assign rfl) ?_)
      refine wpList_nil ?_
      refine (X_then (hK40_ _ _ ?_))
      clear hK40_
      refine C_ret (X_thenR ?_)
      refine R_any (v := (Value.slice (some ⟨b14_, 0, none⟩) (n + 1) c15_)) (run_results1 rfl rfl) ?_
      have H41_ : Holds w36_ (cl b14_ 63 ([] ++ (List.take (i * 6) xs ++ ys ++ List.drop (i * 6) xs) ++ List.drop ((i + 1) * 6 + List.length (List.drop (i * 6) xs)) D30_) :: ro R :: cl b 63 (pr ++ xs ++ sp) :: cl vb 63 ys :: F) := cast1 (P := fun (c__ : List Value) => Holds w36_ (cl b14_ 63 c__ :: ro R :: cl b 63 (pr ++ xs ++ sp) :: cl vb 63 ys :: F)) (by rw [htD30_, List.nil_append] : List.take ((i + 1) * 6) D30_ ++ (List.drop (i * 6) xs) ++ List.drop ((i + 1) * 6 + List.length (List.drop (i * 6) xs)) D30_ = [] ++ (List.take (i * 6) xs ++ ys ++ List.drop (i * 6) xs) ++ List.drop ((i + 1) * 6 + List.length (List.drop (i * 6) xs)) D30_) H37_
      have H42_ : Holds w36_ (sl 63 6 (Value.slice (some ⟨b14_, 0, none⟩) (n + 1) c15_) (n + 1) (List.take (i * 6) xs ++ ys ++ List.drop (i * 6) xs) :: ro R :: cl b 63 (pr ++ xs ++ sp) :: cl vb 63 ys :: F) := Holds.to_sl H41_ 0 [] (List.drop ((i + 1) * 6 + List.length (List.drop (i * 6) xs)) D30_) (xs := List.take (i * 6) xs ++ ys ++ List.drop (i * 6) xs) (m := n + 1) (cap := c15_) (sz := 6) rfl (by simp only [List.length_append, List.length_take, List.length_drop, hys]; omega) (by simp only [List.length_append, List.length_take, List.length_drop, hys]; omega) (by omega)
      have H43_ : Holds w36_ (ro R :: sl 63 6 (Value.slice (some ⟨b14_, 0, none⟩) (n + 1) c15_) (n + 1) (List.take (i * 6) xs ++ ys ++ List.drop (i * 6) xs) :: F) := (Holds.erase (Holds.erase (Holds.bring (Holds.bring H42_ 0 rfl) 1 rfl) 2) 2)
      exact ⟨_, [sl 63 6 (Value.slice (some ⟨b14_, 0, none⟩) (n + 1) c15_) (n + 1) (List.take (i * 6) xs ++ ys ++ List.drop (i * 6) xs)], rfl, ⟨(Value.slice (some ⟨b14_, 0, none⟩) (n + 1) c15_), (rfl : (Value.slice (some ⟨b14_, 0, none⟩) (n + 1) c15_) = ((Value.slice (some ⟨b14_, 0, none⟩) (n + 1) c15_))), rfl⟩, S39_, H43_⟩
    · have c12_fp : ¬ ((c : Int) < (n : Int) + 1) := of_decide_eq_false c12_f
      refine C_skip (X_then (hK10_ _ _ ?_))
      clear hK10_
      refine C_seq (fun K44_ hK44_ => ?_)
      refine C_reg ?_
      refine S_list (T_val (v := (Value.slice (some ⟨b, pr.length, none⟩) n c)) (x_move rfl) ?_)
      refine S_list (T_val (v := (Value.int .i64 (n : Int))) (x_move rfl) ?_)
      refine S_list (T_val (v := (Value.int .i64 1)) (x_move rfl) ?_)
      refine S_list (T_val (v := (Value.int .i64 ((n : Int) + 1))) (x_bin rfl rfl (ib_add (IntWalk.i64_in _ (by omega)))) ?_)
      refine S_list (T_val (v := (Value.slice (some ⟨b, pr.length, none⟩) (n + 1) c)) (x_slice (l := 0) (h := n + 1) rfl Try.underlying49 z63 ⟨_, _, rfl, by omega, by omega, by omega⟩ rfl (by simp [Addr.add])) ?_)
      refine S_list (T_val (v := (Value.slice (some ⟨b, pr.length, none⟩) (n + 1) c)) (x_assign rfl) ?_)
      refine wpList_nil ?_
      refine (X_then (hK44_ _ _ ?_))
      clear hK44_
      refine C_seq (fun K45_ hK45_ => ?_)
      refine C_seq (fun K46_ hK46_ => ?_)
      refine C_reg ?_
      refine S_list (T_val (v := (Value.slice (some ⟨vb, 0, none⟩) 1 1)) (x_move rfl) ?_)
      refine S_list (T_val (v := (Value.slice (some ⟨b, pr.length, none⟩) (n + 1) c)) (x_move rfl) ?_)
      refine S_list (T_val (v := (Value.int .i64 (i : Int))) (x_move rfl) ?_)
      refine S_list (T_val (v := (Value.int .i64 1)) (x_move rfl) ?_)
      refine S_list (T_val (v := (Value.int .i64 ((i : Int) + 1))) (x_bin rfl rfl (ib_add (IntWalk.i64_in _ (by omega)))) ?_)
      refine S_list (T_val (v := (Value.slice (some ⟨b, pr.length + ((i + 1) * 6), none⟩) (n + 1 - (i + 1)) (c - (i + 1)))) (x_slice (l := i + 1) (h := n + 1) rfl Try.underlying49 z63 rfl ⟨_, _, rfl, by omega, by omega, by omega⟩ ((by rw [if_neg (by omega)]; first | rfl | simp [add_mk]))) ?_)
      refine S_list (T_overlaps (tS := 49) (tR := 4) (cs' := pr ++ xs ++ sp) (i := 2) (j := 1) Try.func51 (by kernel_rfl) (by kernel_rfl) (by kernel_rfl) (by kernel_rfl) rfl rfl Try.underlying49 z63 hbv H rfl rfl (fun h__ => by have := congrArg List.length h__; simp only [List.length_append, List.length_nil] at this; omega) ?_)
      refine S_list (T_val (v := (Value.bool true)) (x_cast (x_not (b := false) rfl) rfl) ?_)
      refine wpList_nil ?_
      refine (X_then (hK46_ _ _ ?_))
      clear hK46_
      refine C_condT rfl ?_
      refine C_seq (fun K47_ hK47_ => ?_)
      refine A_start (S := fun w => Sub R (hp w)) (N := 9) foll rfl rfl ?_
      have H48_ : Holds w.drew (ro R :: cl b 63 (pr ++ xs ++ sp) :: clf vb 63 ys :: F) := H
      have hq49_ := ((Holds.ro_at H48_ 0 rfl))
      refine A_tk 0 (v := (Value.slice (some ⟨b, pr.length, none⟩) (n + 1) c)) rfl (by kernel_rfl) (fun w hS => x_move rfl) hq49_ ?_
      refine A_tk 1 (v := (Value.int .i64 (i : Int))) rfl (by kernel_rfl) (fun w hS => x_move rfl) hq49_ ?_
      refine A_tk 2 (v := (Value.int .i64 1)) rfl (by kernel_rfl) (fun w hS => x_move rfl) hq49_ ?_
      refine A_tk 3 (v := (Value.int .i64 ((i : Int) + 1))) rfl (by kernel_rfl) (fun w hS => x_bin rfl rfl (ib_add (IntWalk.i64_in _ (by omega)))) hq49_ ?_
      refine A_tk 4 (v := (Value.slice (some ⟨b, pr.length + ((i + 1) * 6), none⟩) (n + 1 - (i + 1)) (c - (i + 1)))) rfl (by kernel_rfl) (fun w hS => x_slice (l := i + 1) (h := n + 1) rfl Try.underlying49 z63 rfl ⟨_, _, rfl, by omega, by omega, by omega⟩ ((by rw [if_neg (by omega)]; first | rfl | simp [add_mk]))) hq49_ ?_
      refine A_tk 5 (v := (Value.slice (some ⟨b, pr.length, none⟩) (n + 1) c)) rfl (by kernel_rfl) (fun w hS => x_move rfl) hq49_ ?_
      refine A_tk 6 (v := (Value.int .i64 (i : Int))) rfl (by kernel_rfl) (fun w hS => x_move rfl) hq49_ ?_
      refine A_tk 7 (v := (Value.slice (some ⟨b, pr.length + (i * 6), none⟩) (n + 1 - i) (c - i))) rfl (by kernel_rfl) (fun w hS => x_slice (l := i) (h := n + 1) rfl Try.underlying49 z63 rfl ⟨_, _, rfl, by omega, by omega, by omega⟩ ((by rw [if_neg (by omega)]; first | rfl | simp [add_mk]))) hq49_ ?_
      refine A_ready (i := 8) (rs := []) (by kernel_rfl) ?_
      refine AllR.cons ?_ AllR.nil
      have H50_ : Holds w.drew (ro R :: cl b 63 (pr ++ xs ++ sp) :: cl vb 63 ys :: F) := Holds.clf_cl H48_ 2 rfl
      refine A_op (ls' := #[true, true, true, true, true, true, true, true, true]) rfl (by kernel_rfl) (T_copyK (sz := 6) (k := n - i) (ys := List.drop (i * 6) xs) (off := pr.length + ((i + 1) * 6)) (so := pr.length + i * 6) (by first | rfl | congr 1) (by first | rfl | congr 1) Try.underlying49 z63 H50_ 1 rfl (show Nat.min (n + 1 - i) (n + 1 - (i + 1)) = n - i from by rw [show n + 1 - (i + 1) = n - i by omega]; exact Nat.min_eq_right (by omega)) (by rw [List.length_drop]; omega) (fun j__ v__ hv__ => Holds.cl_cell H50_ 1 rfl (mid_drop hv__)) (by first | omega | (simp only [List.length_append, List.length_take, List.length_drop, flat_len6, List.length_cons, List.length_nil]; omega)) (fun u hu => ox u (List.mem_of_mem_drop hu)) ?_)
      intro w51_ S53_ H52_
      replace H52_ : Holds w51_ (ro R :: cl b 63 (List.take (pr.length + ((i + 1) * 6)) (pr ++ xs ++ sp) ++ (List.drop (i * 6) xs) ++ List.drop (pr.length + ((i + 1) * 6) + List.length (List.drop (i * 6) xs)) (pr ++ xs ++ sp)) :: cl vb 63 ys :: F) := H52_
      have S54_ := Same.trans (Same.trans (Same.refl w) (Same.drew _)) S53_
      refine ⟨((Holds.ro_at H52_ 0 rfl)), ?_⟩
      refine A_done (by kernel_rfl) ?_
      refine (X_then (hK47_ _ _ ?_))
      clear hK47_
      refine C_seq (fun K55_ hK55_ => ?_)
      refine C_reg ?_
      refine S_list (T_val (v := (Value.slice (some ⟨b, pr.length, none⟩) (n + 1) c)) (x_move rfl) ?_)
      refine S_list (T_val (v := (Value.int .i64 (i : Int))) (x_move rfl) ?_)
      refine S_list (T_val (v := (Value.slice (some ⟨b, pr.length + (i * 6), none⟩) (n + 1 - i) (c - i))) (x_slice (l := i) (h := n + 1) rfl Try.underlying49 z63 rfl ⟨_, _, rfl, by omega, by omega, by omega⟩ ((by rw [if_neg (by omega)]; first | rfl | simp [add_mk]))) ?_)
      refine S_list (T_val (v := (Value.slice (some ⟨vb, 0, none⟩) 1 1)) (x_move rfl) ?_)
      refine S_list (T_copyK (sz := 6) (k := 1) (ys := ys) (off := pr.length + i * 6) (so := 0) (by first | rfl | congr 1) (by first | rfl | congr 1) Try.underlying49 z63 H52_ 1 rfl (show Nat.min 1 (n + 1 - i) = 1 from Nat.min_eq_left (by omega)) (hys) (fun j__ v__ hv__ => Holds.cl_cell H52_ 2 rfl (by rw [Nat.zero_add]; exact hv__)) (by first | omega | (simp only [List.length_append, List.length_take, List.length_drop, flat_len6, List.length_cons, List.length_nil]; omega)) (oy) ?_)
      intro w56_ S58_ H57_
      replace H57_ : Holds w56_ (ro R :: cl b 63 (List.take (pr.length + i * 6) (List.take (pr.length + ((i + 1) * 6)) (pr ++ xs ++ sp) ++ (List.drop (i * 6) xs) ++ List.drop (pr.length + ((i + 1) * 6) + List.length (List.drop (i * 6) xs)) (pr ++ xs ++ sp)) ++ ys ++ List.drop (pr.length + i * 6 + List.length ys) (List.take (pr.length + ((i + 1) * 6)) (pr ++ xs ++ sp) ++ (List.drop (i * 6) xs) ++ List.drop (pr.length + ((i + 1) * 6) + List.length (List.drop (i * 6) xs)) (pr ++ xs ++ sp))) :: cl vb 63 ys :: F) := H57_
      have S59_ := Same.trans S54_ S58_
      refine wpList_nil ?_
      refine (X_then (hK55_ _ _ ?_))
      clear hK55_
      refine C_seq (fun K60_ hK60_ => ?_)
      refine C_reg ?_
      refine S_list (T_val (v := (Value.slice (some ⟨b, pr.length, none⟩) (n + 1) c)) (x_move rfl) ?_)
      refine S_list (T_val (v := (Value.slice (some ⟨b, pr.length, none⟩) (n + 1) c)) (x_assign rfl) ?_)
      refine wpList_nil ?_
      refine (X_then (hK60_ _ _ ?_))
      clear hK60_
      refine C_ret (X_thenR ?_)
      refine R_any (v := (Value.slice (some ⟨b, pr.length, none⟩) (n + 1) c)) (run_results1 rfl rfl) ?_
      have H61_ : Holds w56_ (ro R :: cl b 63 (pr ++ (List.take (i * 6) xs ++ ys ++ List.drop (i * 6) xs) ++ List.drop (pr.length + ((i + 1) * 6) + List.length (List.drop (i * 6) xs)) (pr ++ xs ++ sp)) :: cl vb 63 ys :: F) := cast1 (P := fun (c__ : List Value) => Holds w56_ (ro R :: cl b 63 c__ :: cl vb 63 ys :: F)) (by rw [show pr.length + ((i + 1) * 6) = pr.length + (i * 6 + 6) by omega]; exact insB rfl (by omega) hys _ : List.take (pr.length + i * 6) (List.take (pr.length + ((i + 1) * 6)) (pr ++ xs ++ sp) ++ (List.drop (i * 6) xs) ++ List.drop (pr.length + ((i + 1) * 6) + List.length (List.drop (i * 6) xs)) (pr ++ xs ++ sp)) ++ ys ++ List.drop (pr.length + i * 6 + List.length ys) (List.take (pr.length + ((i + 1) * 6)) (pr ++ xs ++ sp) ++ (List.drop (i * 6) xs) ++ List.drop (pr.length + ((i + 1) * 6) + List.length (List.drop (i * 6) xs)) (pr ++ xs ++ sp)) = pr ++ (List.take (i * 6) xs ++ ys ++ List.drop (i * 6) xs) ++ List.drop (pr.length + ((i + 1) * 6) + List.length (List.drop (i * 6) xs)) (pr ++ xs ++ sp)) H57_
      have H62_ : Holds w56_ (ro R :: sl 63 6 (Value.slice (some ⟨b, pr.length, none⟩) (n + 1) c) (n + 1) (List.take (i * 6) xs ++ ys ++ List.drop (i * 6) xs) :: cl vb 63 ys :: F) := Holds.to_sl H61_ 1 pr (List.drop (pr.length + ((i + 1) * 6) + List.length (List.drop (i * 6) xs)) (pr ++ xs ++ sp)) (xs := List.take (i * 6) xs ++ ys ++ List.drop (i * 6) xs) (m := n + 1) (cap := c) (sz := 6) rfl (by simp only [List.length_append, List.length_take, List.length_drop, hys]; omega) (by simp only [List.length_append, List.length_take, List.length_drop, hys]; omega) (by omega)
      have H63_ : Holds w56_ (ro R :: sl 63 6 (Value.slice (some ⟨b, pr.length, none⟩) (n + 1) c) (n + 1) (List.take (i * 6) xs ++ ys ++ List.drop (i * 6) xs) :: F) := (Holds.erase (Holds.bring (Holds.bring H62_ 1 rfl) 1 rfl) 2)
      exact ⟨_, [sl 63 6 (Value.slice (some ⟨b, pr.length, none⟩) (n + 1) c) (n + 1) (List.take (i * 6) xs ++ ys ++ List.drop (i * 6) xs)], rfl, ⟨(Value.slice (some ⟨b, pr.length, none⟩) (n + 1) c), (rfl : (Value.slice (some ⟨b, pr.length, none⟩) (n + 1) c) = ((Value.slice (some ⟨b, pr.length, none⟩) (n + 1) c))), rfl⟩, S59_, H63_⟩
end Go.Proofs.Ytgeggiebefonhaa
