/- The last one of a key's changes. -/
import Derived.Test.YtiblemgccgbhoaaKyA0
set_option linter.unusedVariables false
set_option linter.unusedSimpArgs false
namespace Go.Proofs.Ytiblemgccgbhoaa
open Go Go.RowKit Gw

set_option maxHeartbeats 400000 in
theorem kModified (R : HP) (v : Value) (L : List VR) (hL : RS R 6 v (List.length L) (L.flatMap VR.cells)) (hl : L.length ≤ 10000) :
    Tri Try.prog 17 #[v] R [] (fun v__ post__ => v__ = (Value.agg #[(Value.int .i64 ((vLast L).rev_Main)), (Value.int .i64 ((vLast L).rev_Sub))]) ∧ post__ = []) := by
 refine Tri.into (n := 14) (al := [v]) Try.func17 rfl Try.ntmps17 rfl rfl fun w F H => ?_
 refine C_seq (fun K1_ hK1_ => ?_)
 refine C_reg ?_
 refine S_list (T_alloc z31 H ?_)
 intro b2_ w3_ S5_ H4_
 have S6_ := Same.trans (Same.refl w) S5_
 refine wpList_nil ?_
 refine (X_then (hK1_ _ _ ?_))
 clear hK1_
 refine C_seq (fun K7_ hK7_ => ?_)
 refine C_seq (fun K8_ hK8_ => ?_)
 refine C_reg ?_
 refine S_list (T_val (v := v) (x_move rfl) ?_)
 refine S_list (T_val (v := (Value.int .i64 ((List.length L) : Int))) (x_lenRS rfl hL Try.underlying23) ?_)
 refine S_list (T_val (v := (Value.bool (decide (((List.length L) : Int) = 0)))) (x_bin rfl rfl rfl) ?_)
 refine wpList_nil ?_
 refine (X_then (hK8_ _ _ ?_))
 clear hK8_
 refine C_cond (b := decide (((List.length L) : Int) = 0)) rfl (fun c9_t => ?_) (fun c9_f => ?_)
 ·have c9_tp : ((List.length L) : Int) = 0 := of_decide_eq_true c9_t
  refine C_seq (fun K10_ hK10_ => ?_)
  refine C_reg ?_
  refine S_list (T_val (v := (Value.agg #[(Value.int .i64 0), (Value.int .i64 0)])) (by kernel_rfl) ?_)
  refine S_list0 (T_storeN (vs := [(Value.int .i64 0), (Value.int .i64 0)]) rfl rfl z31 rfl (by simp [Value.oneCell']) H4_ 0 rfl (Nat.le_of_ble_eq_true (by rfl)) ?_)
  intro w11_ S13_ H12_
  replace H12_ : Holds w11_ (cl b2_ 31 [(Value.int .i64 0), (Value.int .i64 0)] :: ro R :: F) := H12_
  have S14_ := Same.trans S6_ S13_
  refine wpList_nil ?_
  refine (X_then (hK10_ _ _ ?_))
  clear hK10_
  refine C_ret (X_thenR ?_)
  refine R_any (v := (Value.agg #[(Value.int .i64 0), (Value.int .i64 0)])) (run_results1 rfl ⟨_, rfl, load_resN Try.underlying31 rfl z31 rfl (vs := [(Value.int .i64 0), (Value.int .i64 0)]) (Holds.cl_cells H12_ 0 rfl 0 rfl)⟩) ?_
  have H15_ : Holds w11_ (ro R :: F) := (Holds.pkF H12_ [1] 1 :)
  exact ⟨_, _, rfl, ⟨(congrArg (fun l => Value.agg (List.toArray l)) (lcons (congrArg (Value.int .i64) ((by first | rfl | (simp_all [vNone]; done) | (rw [vLast_nil' (by simp_all)]; rfl) | (simp [hvl_]; done)) : 0 = (vLast L).rev_Main)) (lcons (congrArg (Value.int .i64) ((by first | rfl | (simp_all [vNone]; done) | (rw [vLast_nil' (by simp_all)]; rfl) | (simp [hvl_]; done)) : 0 = (vLast L).rev_Sub)) rfl))), rfl⟩, S14_, H15_⟩
 ·have c9_fp : ¬ (((List.length L) : Int) = 0) := of_decide_eq_false c9_f
  refine C_skip (X_then (hK7_ _ _ ?_))
  clear hK7_
  refine C_seq (fun K16_ hK16_ => ?_)
  refine C_reg ?_
  refine S_list (T_val (v := v) (x_move rfl) ?_)
  refine S_list (T_val (v := v) (x_move rfl) ?_)
  refine S_list (T_val (v := (Value.int .i64 ((List.length L) : Int))) (x_lenRS rfl hL Try.underlying23) ?_)
  refine S_list (T_val (v := (Value.int .i64 (((List.length L) : Int) - 1))) (x_bin rfl rfl (ib_sub (IntWalk.i64_in _ (by omega)))) ?_)
  obtain ⟨x17_, hx18_, hm19_⟩ := elem_at L ((((List.length L) : Int) - 1).toNat) (by omega)
  have hvl_ := vLast_at hx18_ (by omega)
  refine S_list (T_val (v := (Value.pointer (some ⟨(sb v), so v + (((((List.length L) : Int) - 1).toNat) * 6 + 0), none⟩))) (x_idxRS (v := v) rfl hL rfl Try.underlying23 z66 (by omega) (by omega) (by omega : _ = (((List.length L) : Int) - 1).toNat) rfl) ?_)
  refine S_list (T_val (v := (Value.pointer (some ⟨(sb v), so v + (((((List.length L) : Int) - 1).toNat) * 6 + 0), none⟩))) (by kernel_rfl) ?_)
  refine S_list (T_val (v := (Value.agg #[(Value.int .i64 x17_.rev_Main), (Value.int .i64 x17_.rev_Sub)])) (x_loadN (vs := [(Value.int .i64 x17_.rev_Main), (Value.int .i64 x17_.rev_Sub)]) rfl Try.underlying31 rfl z31 rfl (RC.cells (RS.rc hL) (Holds.ro_at H4_ 1 rfl) (((((List.length L) : Int) - 1).toNat) * 6 + 0) (fm_cells VR.len hx18_ (i := 0) rfl))) ?_)
  refine S_list0 (T_storeN (vs := [(Value.int .i64 x17_.rev_Main), (Value.int .i64 x17_.rev_Sub)]) rfl rfl z31 rfl (by simp [Value.oneCell']) H4_ 0 rfl (Nat.le_of_ble_eq_true (by rfl)) ?_)
  intro w20_ S22_ H21_
  have S23_ := Same.trans S6_ S22_
  refine wpList_nil ?_
  refine (X_then (hK16_ _ _ ?_))
  clear hK16_
  refine C_ret ?_
  refine R_any (v := (Value.agg #[(Value.int .i64 x17_.rev_Main), (Value.int .i64 x17_.rev_Sub)])) (run_results1 rfl ⟨_, rfl, load_resN Try.underlying31 rfl z31 rfl (vs := [(Value.int .i64 x17_.rev_Main), (Value.int .i64 x17_.rev_Sub)]) (Holds.cl_cells H21_ 0 rfl 0 rfl)⟩) ?_
  have H24_ : Holds w20_ (ro R :: F) := (Holds.pkF H21_ [1] 1 :)
  exact ⟨_, _, rfl, ⟨(congrArg (fun l => Value.agg (List.toArray l)) (lcons (congrArg (Value.int .i64) ((by first | rfl | (simp_all [vNone]; done) | (rw [vLast_nil' (by simp_all)]; rfl) | (simp [hvl_]; done)) : x17_.rev_Main = (vLast L).rev_Main)) (lcons (congrArg (Value.int .i64) ((by first | rfl | (simp_all [vNone]; done) | (rw [vLast_nil' (by simp_all)]; rfl) | (simp [hvl_]; done)) : x17_.rev_Sub = (vLast L).rev_Sub)) rfl))), rfl⟩, S23_, H24_⟩

set_option maxHeartbeats 400000 in
theorem kLives (R : HP) (v : Value) (L : List VR) (hL : RS R 6 v (List.length L) (L.flatMap VR.cells)) (hl : L.length ≤ 10000) :
    Tri Try.prog 16 #[v] R [] (fun v__ post__ => v__ = (Value.bool (!(vLast L).gone)) ∧ post__ = []) := by
 refine Tri.into (n := 16) (al := [v]) Try.func16 rfl Try.ntmps16 rfl rfl fun w F H => ?_
 refine C_seq (fun K1_ hK1_ => ?_)
 refine C_reg ?_
 refine S_list (T_val (v := (Value.bool false)) (x_assign rfl) ?_)
 refine wpList_nil ?_
 refine (X_then (hK1_ _ _ ?_))
 clear hK1_
 refine C_seq (fun K2_ hK2_ => ?_)
 refine C_reg ?_
 refine S_list (T_val (v := v) (x_move rfl) ?_)
 refine S_list (T_val (v := (Value.int .i64 ((List.length L) : Int))) (x_lenRS rfl hL Try.underlying23) ?_)
 refine S_list (T_val (v := (Value.bool (decide (0 < ((List.length L) : Int))))) (x_bin rfl rfl rfl) ?_)
 refine S_list (T_val (v := (Value.bool (decide (0 < ((List.length L) : Int))))) (x_move rfl) ?_)
 rcases Bool.eq_false_or_eq_true (decide (0 < ((List.length L) : Int))) with c3_t | c3_f
 ·have c3_tp : 0 < ((List.length L) : Int) := of_decide_eq_true c3_t
  refine S_yes (j := 3) (dj := 6) (b := true) rfl rfl (congrArg Value.bool c3_t) (T_val (v := v) (x_move rfl) ?_)
  refine S_yes (j := 3) (dj := 6) (b := true) rfl rfl (congrArg Value.bool c3_t) (T_val (v := v) (x_move rfl) ?_)
  refine S_yes (j := 3) (dj := 6) (b := true) rfl rfl (congrArg Value.bool c3_t) (T_val (v := (Value.int .i64 ((List.length L) : Int))) (x_lenRS rfl hL Try.underlying23) ?_)
  refine S_yes (j := 3) (dj := 6) (b := true) rfl rfl (congrArg Value.bool c3_t) (T_val (v := (Value.int .i64 (((List.length L) : Int) - 1))) (x_bin rfl rfl (ib_sub (IntWalk.i64_in _ (by omega)))) ?_)
  obtain ⟨x4_, hx5_, hm6_⟩ := elem_at L ((((List.length L) : Int) - 1).toNat) (by omega)
  have hvl_ := vLast_at hx5_ (by omega)
  refine S_yes (j := 3) (dj := 6) (b := true) rfl rfl (congrArg Value.bool c3_t) (T_val (v := (Value.pointer (some ⟨(sb v), so v + (((((List.length L) : Int) - 1).toNat) * 6 + 0), none⟩))) (x_idxRS (v := v) rfl hL rfl Try.underlying23 z66 (by omega) (by omega) (by omega : _ = (((List.length L) : Int) - 1).toNat) rfl) ?_)
  refine S_yes (j := 3) (dj := 6) (b := true) rfl rfl (congrArg Value.bool c3_t) (T_val (v := (Value.pointer (some ⟨(sb v), so v + (((((List.length L) : Int) - 1).toNat) * 6 + 5), none⟩))) (by kernel_rfl) ?_)
  refine S_yes (j := 3) (dj := 6) (b := true) rfl rfl (congrArg Value.bool c3_t) (T_val (v := (Value.bool x4_.gone)) (x_load1 rfl Try.underlying4 rfl (RC.cell (RS.rc hL) (Holds.ro_at H 0 rfl) (j := ((((List.length L) : Int) - 1).toNat) * 6 + 5) (u := (Value.bool x4_.gone)) (fm_cell VR.len hx5_ (i := 5) rfl))) ?_)
  refine S_yes (j := 3) (dj := 6) (b := true) rfl rfl (congrArg Value.bool c3_t) (T_val (v := (Value.bool (!x4_.gone))) (x_not rfl) ?_)
  refine S_list (T_pickT (v := (Value.bool (!x4_.gone))) (congrArg Value.bool c3_t) rfl ?_)
  refine S_list (T_val (v := (Value.bool (!x4_.gone))) (x_assign rfl) ?_)
  refine wpList_nil ?_
  refine (X_then (hK2_ _ _ ?_))
  clear hK2_
  refine C_ret ?_
  refine R_any (v := (Value.bool (!x4_.gone))) (run_results1 rfl rfl) ?_
  exact ⟨_, _, rfl, ⟨(congrArg Value.bool ((by first | rfl | (simp_all [vNone]; done) | (rw [vLast_nil' (by simp_all)]; rfl) | (simp [hvl_]; done)) : (!x4_.gone) = (!(vLast L).gone))), rfl⟩, (Same.refl w), H⟩
 ·have c3_fp : ¬ (0 < ((List.length L) : Int)) := of_decide_eq_false c3_f
  refine S_no (j := 3) (dj := 6) (b := false) rfl rfl (congrArg Value.bool c3_f) (by decide) ?_
  refine S_no (j := 3) (dj := 6) (b := false) rfl rfl (congrArg Value.bool c3_f) (by decide) ?_
  refine S_no (j := 3) (dj := 6) (b := false) rfl rfl (congrArg Value.bool c3_f) (by decide) ?_
  refine S_no (j := 3) (dj := 6) (b := false) rfl rfl (congrArg Value.bool c3_f) (by decide) ?_
  refine S_no (j := 3) (dj := 6) (b := false) rfl rfl (congrArg Value.bool c3_f) (by decide) ?_
  refine S_no (j := 3) (dj := 6) (b := false) rfl rfl (congrArg Value.bool c3_f) (by decide) ?_
  refine S_no (j := 3) (dj := 6) (b := false) rfl rfl (congrArg Value.bool c3_f) (by decide) ?_
  refine S_no (j := 3) (dj := 6) (b := false) rfl rfl (congrArg Value.bool c3_f) (by decide) ?_
  refine S_list (T_pickF (v := (Value.bool false)) (congrArg Value.bool c3_f) rfl ?_)
  refine S_list (T_val (v := (Value.bool false)) (x_assign rfl) ?_)
  refine wpList_nil ?_
  refine (X_then (hK2_ _ _ ?_))
  clear hK2_
  refine C_ret ?_
  refine R_any (v := (Value.bool false)) (run_results1 rfl rfl) ?_
  exact ⟨_, _, rfl, ⟨(congrArg Value.bool ((by first | rfl | (simp_all [vNone]; done) | (rw [vLast_nil' (by simp_all)]; rfl) | (simp [hvl_]; done)) : false = (!(vLast L).gone))), rfl⟩, (Same.refl w), H⟩

set_option maxHeartbeats 400000 in
theorem kLess (R : HP) (a b c d : Int) :
    Tri Try.prog 26 #[(Value.agg #[(Value.int .i64 a), (Value.int .i64 b)]), (Value.agg #[(Value.int .i64 c), (Value.int .i64 d)])] R [] (fun v__ post__ => v__ = (Value.bool (vLessB a b c d)) ∧ post__ = []) := by
 refine Tri.into (n := 24) (al := [(Value.agg #[(Value.int .i64 a), (Value.int .i64 b)]), (Value.agg #[(Value.int .i64 c), (Value.int .i64 d)])]) Try.func26 rfl Try.ntmps26 rfl rfl fun w F H => ?_
 refine C_seq (fun K1_ hK1_ => ?_)
 refine C_reg ?_
 refine S_list (T_box (v := (Value.agg #[(Value.int .i64 a), (Value.int .i64 b)])) rfl H ?_)
 intro b2_ w3_ S5_ H4_
 replace H4_ : Holds w3_ (cl b2_ 31 [(Value.int .i64 a), (Value.int .i64 b)] :: ro R :: F) := H4_
 have S6_ := Same.trans (Same.refl w) S5_
 refine S_list (T_box (v := (Value.agg #[(Value.int .i64 c), (Value.int .i64 d)])) rfl H4_ ?_)
 intro b7_ w8_ S10_ H9_
 have S11_ := Same.trans S6_ S10_
 refine S_list (T_val (v := (Value.bool false)) (x_assign rfl) ?_)
 refine wpList_nil ?_
 refine (X_then (hK1_ _ _ ?_))
 clear hK1_
 refine C_seq (fun K12_ hK12_ => ?_)
 refine C_reg ?_
 refine S_list (T_val (v := (Value.pointer (some ⟨b2_, 0, none⟩))) (by kernel_rfl) ?_)
 refine S_list (T_val (v := (Value.int .i64 a)) (x_load1 rfl Try.underlying2 rfl ((Holds.rd H9_ 1 rfl) 0 (Value.int .i64 a) rfl)) ?_)
 refine S_list (T_val (v := (Value.pointer (some ⟨b7_, 0, none⟩))) (by kernel_rfl) ?_)
 refine S_list (T_val (v := (Value.int .i64 c)) (x_load1 rfl Try.underlying2 rfl ((Holds.rd H9_ 0 rfl) 0 (Value.int .i64 c) rfl)) ?_)
 refine S_list (T_val (v := (Value.bool (decide (a < c)))) (x_bin rfl rfl rfl) ?_)
 refine S_list (T_val (v := (Value.bool (decide (a < c)))) (x_move rfl) ?_)
 rcases Bool.eq_false_or_eq_true (decide (a < c)) with c13_t | c13_f
 ·have c13_tp : a < c := of_decide_eq_true c13_t
  refine S_no (j := 5) (dj := 10) (b := true) rfl rfl (congrArg Value.bool c13_t) (by decide) ?_
  refine S_no (j := 5) (dj := 10) (b := true) rfl rfl (congrArg Value.bool c13_t) (by decide) ?_
  refine S_no (j := 5) (dj := 10) (b := true) rfl rfl (congrArg Value.bool c13_t) (by decide) ?_
  refine S_no (j := 5) (dj := 10) (b := true) rfl rfl (congrArg Value.bool c13_t) (by decide) ?_
  refine S_no (j := 5) (dj := 10) (b := true) rfl rfl (congrArg Value.bool c13_t) (by decide) ?_
  refine S_no (j := 5) (dj := 10) (b := true) rfl rfl (congrArg Value.bool c13_t) (by decide) ?_
  refine S_noU (j := 11) (dj := 16) rfl rfl rfl ?_
  refine S_noU (j := 11) (dj := 16) rfl rfl rfl ?_
  refine S_noU (j := 11) (dj := 16) rfl rfl rfl ?_
  refine S_noU (j := 11) (dj := 16) rfl rfl rfl ?_
  refine S_noU (j := 11) (dj := 16) rfl rfl rfl ?_
  refine S_no (j := 5) (dj := 10) (b := true) rfl rfl (congrArg Value.bool c13_t) (by decide) ?_
  refine S_list (T_pickT (v := (Value.bool true)) (congrArg Value.bool c13_t) rfl ?_)
  refine S_list (T_val (v := (Value.bool true)) (x_assign rfl) ?_)
  refine wpList_nil ?_
  refine (X_then (hK12_ _ _ ?_))
  clear hK12_
  refine C_ret ?_
  refine R_any (v := (Value.bool true)) (run_results1 rfl rfl) ?_
  have H14_ : Holds w8_ (ro R :: F) := (Holds.pkF H9_ [2] 2 :)
  exact ⟨_, _, rfl, ⟨(congrArg Value.bool ((by unfold vLessB; simp_all; try omega) : true = (vLessB a b c d))), rfl⟩, S11_, H14_⟩
 ·have c13_fp : ¬ (a < c) := of_decide_eq_false c13_f
  refine S_yes (j := 5) (dj := 10) (b := false) rfl rfl (congrArg Value.bool c13_f) (T_val (v := (Value.pointer (some ⟨b2_, 0, none⟩))) (by kernel_rfl) ?_)
  refine S_yes (j := 5) (dj := 10) (b := false) rfl rfl (congrArg Value.bool c13_f) (T_val (v := (Value.int .i64 a)) (x_load1 rfl Try.underlying2 rfl ((Holds.rd H9_ 1 rfl) 0 (Value.int .i64 a) rfl)) ?_)
  refine S_yes (j := 5) (dj := 10) (b := false) rfl rfl (congrArg Value.bool c13_f) (T_val (v := (Value.pointer (some ⟨b7_, 0, none⟩))) (by kernel_rfl) ?_)
  refine S_yes (j := 5) (dj := 10) (b := false) rfl rfl (congrArg Value.bool c13_f) (T_val (v := (Value.int .i64 c)) (x_load1 rfl Try.underlying2 rfl ((Holds.rd H9_ 0 rfl) 0 (Value.int .i64 c) rfl)) ?_)
  refine S_yes (j := 5) (dj := 10) (b := false) rfl rfl (congrArg Value.bool c13_f) (T_val (v := (Value.bool (decide (a = c)))) (x_bin rfl rfl rfl) ?_)
  refine S_yes (j := 5) (dj := 10) (b := false) rfl rfl (congrArg Value.bool c13_f) (T_val (v := (Value.bool (decide (a = c)))) (x_move rfl) ?_)
  rcases Bool.eq_false_or_eq_true (decide (a = c)) with c15_t | c15_f
  ·have c15_tp : a = c := of_decide_eq_true c15_t
   refine S_yes (j := 11) (dj := 16) (b := true) rfl rfl (congrArg Value.bool c15_t) (T_val (v := (Value.pointer (some ⟨b2_, 1, none⟩))) (by kernel_rfl) ?_)
   refine S_yes (j := 11) (dj := 16) (b := true) rfl rfl (congrArg Value.bool c15_t) (T_val (v := (Value.int .i64 b)) (x_load1 rfl Try.underlying2 rfl ((Holds.rd H9_ 1 rfl) 1 (Value.int .i64 b) rfl)) ?_)
   refine S_yes (j := 11) (dj := 16) (b := true) rfl rfl (congrArg Value.bool c15_t) (T_val (v := (Value.pointer (some ⟨b7_, 1, none⟩))) (by kernel_rfl) ?_)
   refine S_yes (j := 11) (dj := 16) (b := true) rfl rfl (congrArg Value.bool c15_t) (T_val (v := (Value.int .i64 d)) (x_load1 rfl Try.underlying2 rfl ((Holds.rd H9_ 0 rfl) 1 (Value.int .i64 d) rfl)) ?_)
   refine S_yes (j := 11) (dj := 16) (b := true) rfl rfl (congrArg Value.bool c15_t) (T_val (v := (Value.bool (decide (b < d)))) (x_bin rfl rfl rfl) ?_)
   refine S_yes (j := 5) (dj := 10) (b := false) rfl rfl (congrArg Value.bool c13_f) (T_pickT (v := (Value.bool (decide (b < d)))) (congrArg Value.bool c15_t) rfl ?_)
   refine S_list (T_pickF (v := (Value.bool (decide (b < d)))) (congrArg Value.bool c13_f) rfl ?_)
   refine S_list (T_val (v := (Value.bool (decide (b < d)))) (x_assign rfl) ?_)
   refine wpList_nil ?_
   refine (X_then (hK12_ _ _ ?_))
   clear hK12_
   refine C_ret ?_
   refine R_any (v := (Value.bool (decide (b < d)))) (run_results1 rfl rfl) ?_
   have H16_ : Holds w8_ (ro R :: F) := (Holds.pkF H9_ [2] 2 :)
   exact ⟨_, _, rfl, ⟨(congrArg Value.bool ((by unfold vLessB; simp_all; try omega) : (decide (b < d)) = (vLessB a b c d))), rfl⟩, S11_, H16_⟩
  ·have c15_fp : ¬ (a = c) := of_decide_eq_false c15_f
   refine S_no (j := 11) (dj := 16) (b := false) rfl rfl (congrArg Value.bool c15_f) (by decide) ?_
   refine S_no (j := 11) (dj := 16) (b := false) rfl rfl (congrArg Value.bool c15_f) (by decide) ?_
   refine S_no (j := 11) (dj := 16) (b := false) rfl rfl (congrArg Value.bool c15_f) (by decide) ?_
   refine S_no (j := 11) (dj := 16) (b := false) rfl rfl (congrArg Value.bool c15_f) (by decide) ?_
   refine S_no (j := 11) (dj := 16) (b := false) rfl rfl (congrArg Value.bool c15_f) (by decide) ?_
   refine S_yes (j := 5) (dj := 10) (b := false) rfl rfl (congrArg Value.bool c13_f) (T_pickF (v := (Value.bool false)) (congrArg Value.bool c15_f) rfl ?_)
   refine S_list (T_pickF (v := (Value.bool false)) (congrArg Value.bool c13_f) rfl ?_)
   refine S_list (T_val (v := (Value.bool false)) (x_assign rfl) ?_)
   refine wpList_nil ?_
   refine (X_then (hK12_ _ _ ?_))
   clear hK12_
   refine C_ret ?_
   refine R_any (v := (Value.bool false)) (run_results1 rfl rfl) ?_
   have H17_ : Holds w8_ (ro R :: F) := (Holds.pkF H9_ [2] 2 :)
   exact ⟨_, _, rfl, ⟨(congrArg Value.bool ((by unfold vLessB; simp_all; try omega) : false = (vLessB a b c d))), rfl⟩, S11_, H17_⟩
end Go.Proofs.Ytiblemgccgbhoaa
