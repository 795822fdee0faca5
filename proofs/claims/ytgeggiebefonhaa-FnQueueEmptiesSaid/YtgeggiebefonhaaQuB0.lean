/- What a change of places in a queue of leases comes to. -/
import Derived.Test.YtgeggiebefonhaaQuA0
set_option linter.unusedVariables false
set_option linter.unusedSimpArgs false
namespace Go.Proofs.Ytgeggiebefonhaa
open Go Go.RowKit Gw

set_option maxHeartbeats 400000 in
theorem qSwap (R : HP) (v : Value) (q : List Nd) (i j : Nat) (x y : Nd) (hx : q[i]? = some x) (hy : q[j]? = some y) :
    Tri Try.prog 159 #[v, (Value.int .i64 (i : Int)), (Value.int .i64 (j : Int))] R [sl 77 1 v (List.length q) (ptrs q), fam 137 (encs q)] (fun v__ post__ => v__ = (Value.tuple #[]) ∧ post__ = [sl 77 1 v (List.length (swp q i j x y)) (ptrs (swp q i j x y)), fam 137 (encs (swp q i j x y))]) := by
  have hi_ := (List.getElem?_eq_some_iff.1 hx).1
  have hj_ := (List.getElem?_eq_some_iff.1 hy).1
  obtain ⟨c0, c1, c2, c3, c4, h5, h6⟩ := swp_fam2 hx hy
  have hw_ := swp_len q i j x y
  refine Tri.into (n := 34) (al := [v, (Value.int .i64 (i : Int)), (Value.int .i64 (j : Int))]) Try.func159 rfl Try.ntmps159 rfl rfl fun w F H => ?_
  replace H : Holds w (ro R :: sl 77 1 v (List.length q) (ptrs q) :: fam 137 (encs q) :: F) := H
  refine C_seq (fun K1_ hK1_ => ?_)
  refine A_start (S := fun w => FamRd (encs q) w ∧ Sub R (hp w)) (N := 16) foll rfl rfl ?_
  have H2_ : Holds w.drew (ro R :: sl 77 1 v (List.length q) (ptrs q) :: fam 137 (encs q) :: F) := H
  refine A_take 0 (ls' := #[true, false, false, false, false, false, false, false, false, false, false, false, false, false, false, false]) (v := v) rfl (by kernel_rfl) (by kernel_rfl) (by kernel_rfl) (by kernel_rfl) (fun _ _ _ h => h) (fun w hS => x_move rfl) ⟨Holds.famrd H2_ 2 rfl, (Holds.ro_at H2_ 0 rfl)⟩ ?_
  refine A_take 1 (ls' := #[true, true, false, false, false, false, false, false, false, false, false, false, false, false, false, false]) (v := (Value.int .i64 (i : Int))) rfl (by kernel_rfl) (by kernel_rfl) (by kernel_rfl) (by kernel_rfl) (fun _ _ _ h => h) (fun w hS => x_move rfl) ⟨Holds.famrd H2_ 2 rfl, (Holds.ro_at H2_ 0 rfl)⟩ ?_
  refine A_take 2 (ls' := #[true, true, true, false, false, false, false, false, false, false, false, false, false, false, false, false]) (v := v) rfl (by kernel_rfl) (by kernel_rfl) (by kernel_rfl) (by kernel_rfl) (fun _ _ _ h => h) (fun w hS => x_move rfl) ⟨Holds.famrd H2_ 2 rfl, (Holds.ro_at H2_ 0 rfl)⟩ ?_
  refine A_take 3 (ls' := #[true, true, true, true, false, false, false, false, false, false, false, false, false, false, false, false]) (v := (Value.int .i64 (j : Int))) rfl (by kernel_rfl) (by kernel_rfl) (by kernel_rfl) (by kernel_rfl) (fun _ _ _ h => h) (fun w hS => x_move rfl) ⟨Holds.famrd H2_ 2 rfl, (Holds.ro_at H2_ 0 rfl)⟩ ?_
  refine A_take 4 (ls' := #[true, true, true, true, true, false, false, false, false, false, false, false, false, false, false, false]) (v := v) rfl (by kernel_rfl) (by kernel_rfl) (by kernel_rfl) (by kernel_rfl) (fun _ _ _ h => h) (fun w hS => x_move rfl) ⟨Holds.famrd H2_ 2 rfl, (Holds.ro_at H2_ 0 rfl)⟩ ?_
  refine A_take 5 (ls' := #[true, true, true, true, true, true, false, false, false, false, false, false, false, false, false, false]) (v := (Value.int .i64 (j : Int))) rfl (by kernel_rfl) (by kernel_rfl) (by kernel_rfl) (by kernel_rfl) (fun _ _ _ h => h) (fun w hS => x_move rfl) ⟨Holds.famrd H2_ 2 rfl, (Holds.ro_at H2_ 0 rfl)⟩ ?_
  have hr3_ := Holds.sl_RSw H2_ 1 rfl
  refine A_take 6 (ls' := #[true, true, true, true, true, true, true, false, false, false, false, false, false, false, false, false]) (v := (Value.pointer (some ⟨(sb v), so v + j, none⟩))) rfl (by kernel_rfl) (by kernel_rfl) (by kernel_rfl) (by kernel_rfl) (fun _ _ _ h => h) (fun w hS => x_idxSlR (v := v) rfl hr3_ rfl Try.underlying133 z77 (by omega) (by omega) (by omega : _ = j) (by rw [Nat.mul_one])) ⟨Holds.famrd H2_ 2 rfl, (Holds.ro_at H2_ 0 rfl)⟩ ?_
  refine A_take 8 (ls' := #[true, true, true, true, true, true, true, false, true, false, false, false, false, false, false, false]) (v := v) rfl (by kernel_rfl) (by kernel_rfl) (by kernel_rfl) (by kernel_rfl) (fun _ _ _ h => h) (fun w hS => x_move rfl) ⟨Holds.famrd H2_ 2 rfl, (Holds.ro_at H2_ 0 rfl)⟩ ?_
  refine A_take 9 (ls' := #[true, true, true, true, true, true, true, false, true, true, false, false, false, false, false, false]) (v := (Value.int .i64 (i : Int))) rfl (by kernel_rfl) (by kernel_rfl) (by kernel_rfl) (by kernel_rfl) (fun _ _ _ h => h) (fun w hS => x_move rfl) ⟨Holds.famrd H2_ 2 rfl, (Holds.ro_at H2_ 0 rfl)⟩ ?_
  refine A_take 10 (ls' := #[true, true, true, true, true, true, true, false, true, true, true, false, false, false, false, false]) (v := (Value.pointer (some ⟨(sb v), so v + i, none⟩))) rfl (by kernel_rfl) (by kernel_rfl) (by kernel_rfl) (by kernel_rfl) (fun _ _ _ h => h) (fun w hS => x_idxSlR (v := v) rfl hr3_ rfl Try.underlying133 z77 (by omega) (by omega) (by omega : _ = i) (by rw [Nat.mul_one])) ⟨Holds.famrd H2_ 2 rfl, (Holds.ro_at H2_ 0 rfl)⟩ ?_
  refine A_ready (i := 7) (rs := [11]) (by kernel_rfl) ?_
  refine AllR.cons ?_ ?_
  · skip
    refine A_op (ls' := #[true, true, true, true, true, true, true, true, true, true, true, false, false, false, false, false]) rfl (by kernel_rfl) (T_val (v := (Value.pointer (some ⟨y.b, 0, none⟩))) (x_load1 rfl Try.underlying77 rfl ((Holds.slrd H2_ 1 rfl) _ _ (ptrs_at hy))) ?_)
    refine ⟨⟨Holds.famrd H2_ 2 rfl, (Holds.ro_at H2_ 0 rfl)⟩, ?_⟩
    refine A_ready (i := 11) (rs := []) (by kernel_rfl) ?_
    refine AllR.cons ?_ AllR.nil
    refine A_op (ls' := #[true, true, true, true, true, true, true, true, true, true, true, true, false, false, false, false]) rfl (by kernel_rfl) (T_val (v := (Value.pointer (some ⟨x.b, 0, none⟩))) (x_load1 rfl Try.underlying77 rfl ((Holds.slrd H2_ 1 rfl) _ _ (ptrs_at hx))) ?_)
    refine ⟨⟨Holds.famrd H2_ 2 rfl, (Holds.ro_at H2_ 0 rfl)⟩, ?_⟩
    refine A_take 12 (ls' := #[true, true, true, true, true, true, true, true, true, true, true, true, true, false, false, false]) (v := (Value.pointer (some ⟨(sb v), so v + i, none⟩))) rfl (by kernel_rfl) (by kernel_rfl) (by kernel_rfl) (by kernel_rfl) (fun _ _ _ h => h) (fun w hS => x_idxSlR (v := v) rfl hr3_ rfl Try.underlying133 z77 (by omega) (by omega) (by omega : _ = i) (by rw [Nat.mul_one])) ⟨Holds.famrd H2_ 2 rfl, (Holds.ro_at H2_ 0 rfl)⟩ ?_
    refine A_ready (i := 13) (rs := []) (by kernel_rfl) ?_
    refine AllR.cons ?_ AllR.nil
    refine A_op0 (ls' := #[true, true, true, true, true, true, true, true, true, true, true, true, true, true, false, false]) rfl (by kernel_rfl) (T_storeSl (v := v) (u := (Value.pointer (some ⟨y.b, 0, none⟩))) rfl rfl z77 rfl H2_ 1 rfl (by (simp only [List.length_set, ptrs_len]; omega)) rfl rfl ?_)
    intro w4_ S6_ H5_
    replace H5_ : Holds w4_ (ro R :: sl 77 1 v (List.length q) (List.set (ptrs q) i (Value.pointer (some ⟨y.b, 0, none⟩))) :: fam 137 (encs q) :: F) := H5_
    have S7_ := Same.trans (Same.trans (Same.refl w) (Same.drew _)) S6_
    refine ⟨⟨Holds.famrd H5_ 2 rfl, (Holds.ro_at H5_ 0 rfl)⟩, ?_⟩
    have hr8_ := Holds.sl_RSw H5_ 1 rfl
    refine A_take 14 (ls' := #[true, true, true, true, true, true, true, true, true, true, true, true, true, true, true, false]) (v := (Value.pointer (some ⟨(sb v), so v + j, none⟩))) rfl (by kernel_rfl) (by kernel_rfl) (by kernel_rfl) (by kernel_rfl) (fun _ _ _ h => h) (fun w hS => x_idxSlR (v := v) rfl hr8_ rfl Try.underlying133 z77 (by omega) (by omega) (by omega : _ = j) (by rw [Nat.mul_one])) ⟨Holds.famrd H5_ 2 rfl, (Holds.ro_at H5_ 0 rfl)⟩ ?_
    refine A_ready (i := 15) (rs := []) (by kernel_rfl) ?_
    refine AllR.cons ?_ AllR.nil
    refine A_op0 (ls' := #[true, true, true, true, true, true, true, true, true, true, true, true, true, true, true, true]) rfl (by kernel_rfl) (T_storeSl (v := v) (u := (Value.pointer (some ⟨x.b, 0, none⟩))) rfl rfl z77 rfl H5_ 1 rfl (by (simp only [List.length_set, ptrs_len]; omega)) rfl rfl ?_)
    intro w9_ S11_ H10_
    replace H10_ : Holds w9_ (ro R :: sl 77 1 v (List.length q) (List.set (List.set (ptrs q) i (Value.pointer (some ⟨y.b, 0, none⟩))) j (Value.pointer (some ⟨x.b, 0, none⟩))) :: fam 137 (encs q) :: F) := H10_
    have S12_ := Same.trans S7_ S11_
    have H13_ : Holds w9_ (ro R :: sl 77 1 v (List.length (swp q i j x y)) (ptrs (swp q i j x y)) :: fam 137 (encs q) :: F) := cast2 (P := fun (c__ : List Value) (k__ : Nat) => Holds w9_ (ro R :: sl 77 1 v k__ c__ :: fam 137 (encs q) :: F)) (swp_ptrs : List.set (List.set (ptrs q) i (Value.pointer (some ⟨y.b, 0, none⟩))) j (Value.pointer (some ⟨x.b, 0, none⟩)) = ptrs (swp q i j x y)) ((swp_len ..).symm : (List.length q) = (List.length (swp q i j x y))) H10_
    refine ⟨⟨Holds.famrd H13_ 2 rfl, (Holds.ro_at H13_ 0 rfl)⟩, ?_⟩
    refine A_done (by kernel_rfl) ?_
    refine (X_then (hK1_ _ _ ?_))
    clear hK1_
    refine C_seq (fun K14_ hK14_ => ?_)
    refine C_reg ?_
    refine S_list (T_val (v := v) (x_move rfl) ?_)
    refine S_list (T_val (v := (Value.int .i64 (i : Int))) (x_move rfl) ?_)
    have hr15_ := Holds.sl_RSw H13_ 1 rfl
    refine S_list (T_val (v := (Value.pointer (some ⟨(sb v), so v + i, none⟩))) (x_idxSlR (v := v) rfl hr15_ rfl Try.underlying133 z77 (by omega) (by omega) (by omega : _ = i) (by rw [Nat.mul_one])) ?_)
    refine S_list (T_val (v := (Value.pointer (some ⟨y.b, 0, none⟩))) (x_load1 rfl Try.underlying77 rfl ((Holds.slrd H13_ 1 rfl) _ _ (swp_pi hx hy))) ?_)
    refine S_list (T_val (v := (Value.int .i64 (i : Int))) (x_move rfl) ?_)
    refine S_list (T_val (v := (Value.pointer (some ⟨y.b, 0, none⟩))) (by kernel_rfl) ?_)
    refine S_list (T_val (v := (Value.pointer (some ⟨y.b, 4, none⟩))) (by kernel_rfl) ?_)
    refine S_list0 (T_storeFam (u := (Value.int .i64 (i : Int))) rfl rfl z3 rfl H13_ 2 rfl (encs_at hy) (Nat.le_of_ble_eq_true (by rfl)) ?_)
    intro w16_ S18_ H17_
    replace H17_ : Holds w16_ (ro R :: sl 77 1 v (List.length (swp q i j x y)) (ptrs (swp q i j x y)) :: fam 137 (List.set (encs q) j (y.b, [(Value.int .i64 y.id), (Value.int .i64 (y.t / 1000000000)), (Value.int .i64 (y.t % 1000000000)), (Value.bool true), (Value.int .i64 (i : Int))])) :: F) := H17_
    have S19_ := Same.trans S12_ S18_
    refine wpList_nil ?_
    refine (X_then (hK14_ _ _ ?_))
    clear hK14_
    refine C_reg ?_
    refine S_list (T_val (v := v) (x_move rfl) ?_)
    refine S_list (T_val (v := (Value.int .i64 (j : Int))) (x_move rfl) ?_)
    refine S_list (T_val (v := (Value.pointer (some ⟨(sb v), so v + j, none⟩))) (x_idxSlR (v := v) rfl hr15_ rfl Try.underlying133 z77 (by omega) (by omega) (by omega : _ = j) (by rw [Nat.mul_one])) ?_)
    refine S_list (T_val (v := (Value.pointer (some ⟨x.b, 0, none⟩))) (x_load1 rfl Try.underlying77 rfl ((Holds.slrd H17_ 1 rfl) _ _ (swp_pj hy))) ?_)
    refine S_list (T_val (v := (Value.int .i64 (j : Int))) (x_move rfl) ?_)
    refine S_list (T_val (v := (Value.pointer (some ⟨x.b, 0, none⟩))) (by kernel_rfl) ?_)
    refine S_list (T_val (v := (Value.pointer (some ⟨x.b, 4, none⟩))) (by kernel_rfl) ?_)
    refine S_list0 (T_storeFam (u := (Value.int .i64 (j : Int))) rfl rfl z3 rfl H17_ 2 rfl h5 (Nat.le_of_ble_eq_true (by rfl)) ?_)
    intro w20_ S22_ H21_
    replace H21_ : Holds w20_ (ro R :: sl 77 1 v (List.length (swp q i j x y)) (ptrs (swp q i j x y)) :: fam 137 (List.set (List.set (encs q) j (y.b, [(Value.int .i64 y.id), (Value.int .i64 (y.t / 1000000000)), (Value.int .i64 (y.t % 1000000000)), (Value.bool true), (Value.int .i64 (i : Int))])) i (x.b, [c0, c1, c2, c3, (Value.int .i64 (j : Int))])) :: F) := H21_
    have S23_ := Same.trans S19_ S22_
    refine wpList_nil ?_
    refine R_0 rfl ?_
    have H24_ : Holds w20_ (ro R :: sl 77 1 v (List.length (swp q i j x y)) (ptrs (swp q i j x y)) :: fam 137 (encs (swp q i j x y)) :: F) := Holds.fam_perm H21_ 2 rfl (by rw [h6]; exact swp_perm hx hy)
    exact ⟨_, [sl 77 1 v (List.length (swp q i j x y)) (ptrs (swp q i j x y)), fam 137 (encs (swp q i j x y))], rfl, ⟨rfl, rfl⟩, S23_, H24_⟩
  refine AllR.cons ?_ AllR.nil
  refine A_op (ls' := #[true, true, true, true, true, true, true, false, true, true, true, true, false, false, false, false]) rfl (by kernel_rfl) (T_val (v := (Value.pointer (some ⟨x.b, 0, none⟩))) (x_load1 rfl Try.underlying77 rfl ((Holds.slrd H2_ 1 rfl) _ _ (ptrs_at hx))) ?_)
  refine ⟨⟨Holds.famrd H2_ 2 rfl, (Holds.ro_at H2_ 0 rfl)⟩, ?_⟩
  refine A_ready (i := 7) (rs := []) (by kernel_rfl) ?_
  refine AllR.cons ?_ AllR.nil
  refine A_op (ls' := #[true, true, true, true, true, true, true, true, true, true, true, true, false, false, false, false]) rfl (by kernel_rfl) (T_val (v := (Value.pointer (some ⟨y.b, 0, none⟩))) (x_load1 rfl Try.underlying77 rfl ((Holds.slrd H2_ 1 rfl) _ _ (ptrs_at hy))) ?_)
  refine ⟨⟨Holds.famrd H2_ 2 rfl, (Holds.ro_at H2_ 0 rfl)⟩, ?_⟩
  refine A_take 12 (ls' := #[true, true, true, true, true, true, true, true, true, true, true, true, true, false, false, false]) (v := (Value.pointer (some ⟨(sb v), so v + i, none⟩))) rfl (by kernel_rfl) (by kernel_rfl) (by kernel_rfl) (by kernel_rfl) (fun _ _ _ h => h) (fun w hS => x_idxSlR (v := v) rfl hr3_ rfl Try.underlying133 z77 (by omega) (by omega) (by omega : _ = i) (by rw [Nat.mul_one])) ⟨Holds.famrd H2_ 2 rfl, (Holds.ro_at H2_ 0 rfl)⟩ ?_
  refine A_ready (i := 13) (rs := []) (by kernel_rfl) ?_
  refine AllR.cons ?_ AllR.nil
  refine A_op0 (ls' := #[true, true, true, true, true, true, true, true, true, true, true, true, true, true, false, false]) rfl (by kernel_rfl) (T_storeSl (v := v) (u := (Value.pointer (some ⟨y.b, 0, none⟩))) rfl rfl z77 rfl H2_ 1 rfl (by (simp only [List.length_set, ptrs_len]; omega)) rfl rfl ?_)
  intro w25_ S27_ H26_
  replace H26_ : Holds w25_ (ro R :: sl 77 1 v (List.length q) (List.set (ptrs q) i (Value.pointer (some ⟨y.b, 0, none⟩))) :: fam 137 (encs q) :: F) := H26_
  have S28_ := Same.trans (Same.trans (Same.refl w) (Same.drew _)) S27_
  refine ⟨⟨Holds.famrd H26_ 2 rfl, (Holds.ro_at H26_ 0 rfl)⟩, ?_⟩
  have hr29_ := Holds.sl_RSw H26_ 1 rfl
  refine A_take 14 (ls' := #[true, true, true, true, true, true, true, true, true, true, true, true, true, true, true, false]) (v := (Value.pointer (some ⟨(sb v), so v + j, none⟩))) rfl (by kernel_rfl) (by kernel_rfl) (by kernel_rfl) (by kernel_rfl) (fun _ _ _ h => h) (fun w hS => x_idxSlR (v := v) rfl hr29_ rfl Try.underlying133 z77 (by omega) (by omega) (by omega : _ = j) (by rw [Nat.mul_one])) ⟨Holds.famrd H26_ 2 rfl, (Holds.ro_at H26_ 0 rfl)⟩ ?_
  refine A_ready (i := 15) (rs := []) (by kernel_rfl) ?_
  refine AllR.cons ?_ AllR.nil
  refine A_op0 (ls' := #[true, true, true, true, true, true, true, true, true, true, true, true, true, true, true, true]) rfl (by kernel_rfl) (T_storeSl (v := v) (u := (Value.pointer (some ⟨x.b, 0, none⟩))) rfl rfl z77 rfl H26_ 1 rfl (by (simp only [List.length_set, ptrs_len]; omega)) rfl rfl ?_)
  intro w30_ S32_ H31_
  replace H31_ : Holds w30_ (ro R :: sl 77 1 v (List.length q) (List.set (List.set (ptrs q) i (Value.pointer (some ⟨y.b, 0, none⟩))) j (Value.pointer (some ⟨x.b, 0, none⟩))) :: fam 137 (encs q) :: F) := H31_
  have S33_ := Same.trans S28_ S32_
  have H34_ : Holds w30_ (ro R :: sl 77 1 v (List.length (swp q i j x y)) (ptrs (swp q i j x y)) :: fam 137 (encs q) :: F) := cast2 (P := fun (c__ : List Value) (k__ : Nat) => Holds w30_ (ro R :: sl 77 1 v k__ c__ :: fam 137 (encs q) :: F)) (swp_ptrs : List.set (List.set (ptrs q) i (Value.pointer (some ⟨y.b, 0, none⟩))) j (Value.pointer (some ⟨x.b, 0, none⟩)) = ptrs (swp q i j x y)) ((swp_len ..).symm : (List.length q) = (List.length (swp q i j x y))) H31_
  refine ⟨⟨Holds.famrd H34_ 2 rfl, (Holds.ro_at H34_ 0 rfl)⟩, ?_⟩
  refine A_done (by kernel_rfl) ?_
  refine (X_then (hK1_ _ _ ?_))
  clear hK1_
  refine C_seq (fun K35_ hK35_ => ?_)
  refine C_reg ?_
  refine S_list (T_val (v := v) (x_move rfl) ?_)
  refine S_list (T_val (v := (Value.int .i64 (i : Int))) (x_move rfl) ?_)
  have hr36_ := Holds.sl_RSw H34_ 1 rfl
  refine S_list (T_val (v := (Value.pointer (some ⟨(sb v), so v + i, none⟩))) (x_idxSlR (v := v) rfl hr36_ rfl Try.underlying133 z77 (by omega) (by omega) (by omega : _ = i) (by rw [Nat.mul_one])) ?_)
  refine S_list (T_val (v := (Value.pointer (some ⟨y.b, 0, none⟩))) (x_load1 rfl Try.underlying77 rfl ((Holds.slrd H34_ 1 rfl) _ _ (swp_pi hx hy))) ?_)
  refine S_list (T_val (v := (Value.int .i64 (i : Int))) (x_move rfl) ?_)
  refine S_list (T_val (v := (Value.pointer (some ⟨y.b, 0, none⟩))) (by kernel_rfl) ?_)
  refine S_list (T_val (v := (Value.pointer (some ⟨y.b, 4, none⟩))) (by kernel_rfl) ?_)
  refine S_list0 (T_storeFam (u := (Value.int .i64 (i : Int))) rfl rfl z3 rfl H34_ 2 rfl (encs_at hy) (Nat.le_of_ble_eq_true (by rfl)) ?_)
  intro w37_ S39_ H38_
  replace H38_ : Holds w37_ (ro R :: sl 77 1 v (List.length (swp q i j x y)) (ptrs (swp q i j x y)) :: fam 137 (List.set (encs q) j (y.b, [(Value.int .i64 y.id), (Value.int .i64 (y.t / 1000000000)), (Value.int .i64 (y.t % 1000000000)), (Value.bool true), (Value.int .i64 (i : Int))])) :: F) := H38_
  have S40_ := Same.trans S33_ S39_
  refine wpList_nil ?_
  refine (X_then (hK35_ _ _ ?_))
  clear hK35_
  refine C_reg ?_
  refine S_list (T_val (v := v) (x_move rfl) ?_)
  refine S_list (T_val (v := (Value.int .i64 (j : Int))) (x_move rfl) ?_)
  refine S_list (T_val (v := (Value.pointer (some ⟨(sb v), so v + j, none⟩))) (x_idxSlR (v := v) rfl hr36_ rfl Try.underlying133 z77 (by omega) (by omega) (by omega : _ = j) (by rw [Nat.mul_one])) ?_)
  refine S_list (T_val (v := (Value.pointer (some ⟨x.b, 0, none⟩))) (x_load1 rfl Try.underlying77 rfl ((Holds.slrd H38_ 1 rfl) _ _ (swp_pj hy))) ?_)
  refine S_list (T_val (v := (Value.int .i64 (j : Int))) (x_move rfl) ?_)
  refine S_list (T_val (v := (Value.pointer (some ⟨x.b, 0, none⟩))) (by kernel_rfl) ?_)
  refine S_list (T_val (v := (Value.pointer (some ⟨x.b, 4, none⟩))) (by kernel_rfl) ?_)
  refine S_list0 (T_storeFam (u := (Value.int .i64 (j : Int))) rfl rfl z3 rfl H38_ 2 rfl h5 (Nat.le_of_ble_eq_true (by rfl)) ?_)
  intro w41_ S43_ H42_
  replace H42_ : Holds w41_ (ro R :: sl 77 1 v (List.length (swp q i j x y)) (ptrs (swp q i j x y)) :: fam 137 (List.set (List.set (encs q) j (y.b, [(Value.int .i64 y.id), (Value.int .i64 (y.t / 1000000000)), (Value.int .i64 (y.t % 1000000000)), (Value.bool true), (Value.int .i64 (i : Int))])) i (x.b, [c0, c1, c2, c3, (Value.int .i64 (j : Int))])) :: F) := H42_
  have S44_ := Same.trans S40_ S43_
  refine wpList_nil ?_
  refine R_0 rfl ?_
  have H45_ : Holds w41_ (ro R :: sl 77 1 v (List.length (swp q i j x y)) (ptrs (swp q i j x y)) :: fam 137 (encs (swp q i j x y)) :: F) := Holds.fam_perm H42_ 2 rfl (by rw [h6]; exact swp_perm hx hy)
  exact ⟨_, [sl 77 1 v (List.length (swp q i j x y)) (ptrs (swp q i j x y)), fam 137 (encs (swp q i j x y))], rfl, ⟨rfl, rfl⟩, S44_, H45_⟩
end Go.Proofs.Ytgeggiebefonhaa
