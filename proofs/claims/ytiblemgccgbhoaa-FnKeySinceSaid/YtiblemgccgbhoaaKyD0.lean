/- The last change at or below a number. -/
import Derived.Test.YtiblemgccgbhoaaKyC0
set_option linter.unusedVariables false
set_option linter.unusedSimpArgs false
namespace Go.Proofs.Ytiblemgccgbhoaa
open Go Go.RowKit Gw

set_option maxHeartbeats 400000 in
theorem kLast (R : HP) (v : Value) (L : List VR) (at_ : Int) (hL : RS R 6 v (List.length L) (L.flatMap VR.cells)) (hl : L.length ≤ 10000) :
    Tri Try.prog 52 #[v, (Value.int .i64 at_)] R [] (fun v__ post__ => v__ = (Value.int .i64 ((vLastN L at_ L.length : Int) - 1)) ∧ post__ = []) := by
 refine Tri.into (n := 24) (al := [v, (Value.int .i64 at_)]) Try.func52 rfl Try.ntmps52 rfl rfl fun w F H => ?_
 refine C_seq (fun K1_ hK1_ => ?_)
 refine C_reg ?_
 refine S_list (T_val (v := (Value.int .i64 0)) (x_assign rfl) ?_)
 refine wpList_nil ?_
 refine (X_then (hK1_ _ _ ?_))
 clear hK1_
 refine C_seq (fun K2_ hK2_ => ?_)
 refine C_reg ?_
 refine S_list (T_val (v := v) (x_move rfl) ?_)
 refine S_list (T_val (v := (Value.int .i64 ((List.length L) : Int))) (x_lenRS rfl hL Try.underlying23) ?_)
 refine S_list (T_val (v := (Value.int .i64 (((List.length L) : Int) - 1))) (x_bin rfl rfl (ib_sub (IntWalk.i64_in _ (by omega)))) ?_)
 refine S_list (T_val (v := (Value.int .i64 (((List.length L) : Int) - 1))) (x_assign rfl) ?_)
 refine wpList_nil ?_
 refine (X_then (hK2_ _ _ ?_))
 clear hK2_
 refine C_seq (fun K3_ hK3_ => ?_)
 refine C_block ?_
 refine C_loop (γ := Nat) (fun n a__ w1__ => ∃ h : Env, a__ = mkA 24 (upd (upd (upd (upd h 0 v) 1 (Value.int .i64 at_)) 4 (Value.int .i64 0)) 5 (Value.int .i64 ((n : Int) - 1))) [] ∧ Holds w1__ (ro R :: F) ∧ Same w w1__ ∧ (n ≤ L.length) ∧ (vLastN L at_ L.length = vLastN L at_ n)) (fun n => n) (L.length) ⟨_, congrArg (fun e => mkA 24 e []) (ch (ch (ch (ch rfl rfl) rfl) rfl) (congrArg (Value.int .i64) ((by first | rfl | omega | (simp; done) | (simp; omega)) : ((List.length L) : Int) - 1 = (L.length : Int) - 1))), H, (Same.refl w), (by first | assumption | omega | exact rfl), (rfl)⟩ ?_
 rintro n _ w4_ ⟨h, rfl, H5_, S6_, hn, hin⟩
 refine C_seq (fun K7_ hK7_ => ?_)
 refine C_seq (fun K8_ hK8_ => ?_)
 refine C_reg ?_
 refine S_list (T_val (v := (Value.int .i64 ((n : Int) - 1))) (x_move rfl) ?_)
 refine S_list (T_val (v := (Value.bool (decide (0 ≤ (n : Int) - 1)))) (x_bin rfl rfl rfl) ?_)
 refine S_list (T_val (v := (Value.bool (decide (0 ≤ (n : Int) - 1)))) (x_move rfl) ?_)
 rcases Bool.eq_false_or_eq_true (decide (0 ≤ (n : Int) - 1)) with c9_t | c9_f
 ·have c9_tp : 0 ≤ (n : Int) - 1 := of_decide_eq_true c9_t
  refine S_yes (j := 2) (dj := 11) (b := true) rfl rfl (congrArg Value.bool c9_t) (T_val (v := v) (x_move rfl) ?_)
  refine S_yes (j := 2) (dj := 11) (b := true) rfl rfl (congrArg Value.bool c9_t) (T_val (v := (Value.int .i64 ((n : Int) - 1))) (x_move rfl) ?_)
  obtain ⟨x10_, hx11_, hm12_⟩ := elem_at L (((n : Int) - 1).toNat) (by omega)
  refine S_yes (j := 2) (dj := 11) (b := true) rfl rfl (congrArg Value.bool c9_t) (T_val (v := (Value.pointer (some ⟨(sb v), so v + ((((n : Int) - 1).toNat) * 6 + 0), none⟩))) (x_idxRS (v := v) rfl hL rfl Try.underlying23 z66 (by omega) (by omega) (by omega : _ = ((n : Int) - 1).toNat) rfl) ?_)
  refine S_yes (j := 2) (dj := 11) (b := true) rfl rfl (congrArg Value.bool c9_t) (T_val (v := (Value.pointer (some ⟨(sb v), so v + ((((n : Int) - 1).toNat) * 6 + 0), none⟩))) (by kernel_rfl) ?_)
  refine S_yes (j := 2) (dj := 11) (b := true) rfl rfl (congrArg Value.bool c9_t) (T_val (v := (Value.pointer (some ⟨(sb v), so v + ((((n : Int) - 1).toNat) * 6 + 0), none⟩))) (by kernel_rfl) ?_)
  refine S_yes (j := 2) (dj := 11) (b := true) rfl rfl (congrArg Value.bool c9_t) (T_val (v := (Value.int .i64 x10_.rev_Main)) (x_load1 rfl Try.underlying2 rfl (RC.cell (RS.rc hL) (Holds.ro_at H5_ 0 rfl) (j := (((n : Int) - 1).toNat) * 6 + 0) (u := (Value.int .i64 x10_.rev_Main)) (fm_cell VR.len hx11_ (i := 0) rfl))) ?_)
  refine S_yes (j := 2) (dj := 11) (b := true) rfl rfl (congrArg Value.bool c9_t) (T_val (v := (Value.int .i64 at_)) (x_move rfl) ?_)
  refine S_yes (j := 2) (dj := 11) (b := true) rfl rfl (congrArg Value.bool c9_t) (T_val (v := (Value.bool (decide (at_ < x10_.rev_Main)))) (x_bin rfl rfl rfl) ?_)
  refine S_list (T_pickT (v := (Value.bool (decide (at_ < x10_.rev_Main)))) (congrArg Value.bool c9_t) rfl ?_)
  refine wpList_nil ?_
  refine (X_then (hK8_ _ _ ?_))
  clear hK8_
  refine C_cond (b := decide (at_ < x10_.rev_Main)) rfl (fun c13_t => ?_) (fun c13_f => ?_)
  ·have c13_tp : at_ < x10_.rev_Main := of_decide_eq_true c13_t
   refine C_skip (X_then (hK7_ _ _ ?_))
   clear hK7_
   refine C_block ?_
   refine C_reg ?_
   refine S_list (T_val (v := (Value.int .i64 ((n : Int) - 1))) (x_move rfl) ?_)
   refine S_list (T_val (v := (Value.int .i64 (((n : Int) - 1) - 1))) (x_bin rfl rfl (ib_sub (IntWalk.i64_in _ (by omega)))) ?_)
   refine S_list (T_val (v := (Value.int .i64 (((n : Int) - 1) - 1))) (x_assign rfl) ?_)
   refine wpList_nil ?_
   refine (X_blkN (X_then ?_))
   exact ⟨(n - 1), ⟨_, congrArg (fun e => mkA 24 e []) (ch (ch (ch (ch rfl rfl) rfl) rfl) (congrArg (Value.int .i64) ((by first | rfl | omega | (simp; done) | (simp; omega)) : ((n : Int) - 1) - 1 = ((n - 1 : Nat) : Int) - 1))), H5_, S6_, (by first | assumption | omega | exact rfl), (by rw [hin, vLastN_no' hx11_ (by omega) (by omega)])⟩, by first | omega | (dsimp only; omega) | (simp; omega)⟩
  ·have c13_fp : ¬ (at_ < x10_.rev_Main) := of_decide_eq_false c13_f
   refine C_exit (X_thenX (X_thenX (X_blkHit ?_)))
   refine (X_then (hK3_ _ _ ?_))
   clear hK3_
   refine C_seq (fun K14_ hK14_ => ?_)
   refine C_reg ?_
   refine S_list (T_val (v := (Value.int .i64 ((n : Int) - 1))) (x_move rfl) ?_)
   refine S_list (T_val (v := (Value.int .i64 ((n : Int) - 1))) (x_assign rfl) ?_)
   refine wpList_nil ?_
   refine (X_then (hK14_ _ _ ?_))
   clear hK14_
   refine C_ret ?_
   refine R_any (v := (Value.int .i64 ((n : Int) - 1))) (run_results1 rfl rfl) ?_
   exact ⟨_, _, rfl, ⟨(congrArg (Value.int .i64) ((by rw [hin]; first | (rw [vLastN_yes' hx11_ (by omega) (by omega)]; done) | (obtain rfl : n = 0 := (by omega); rfl)) : (n : Int) - 1 = (vLastN L at_ L.length : Int) - 1)), rfl⟩, S6_, H5_⟩
 ·have c9_fp : ¬ (0 ≤ (n : Int) - 1) := of_decide_eq_false c9_f
  refine S_no (j := 2) (dj := 11) (b := false) rfl rfl (congrArg Value.bool c9_f) (by decide) ?_
  refine S_no (j := 2) (dj := 11) (b := false) rfl rfl (congrArg Value.bool c9_f) (by decide) ?_
  refine S_no (j := 2) (dj := 11) (b := false) rfl rfl (congrArg Value.bool c9_f) (by decide) ?_
  refine S_no (j := 2) (dj := 11) (b := false) rfl rfl (congrArg Value.bool c9_f) (by decide) ?_
  refine S_no (j := 2) (dj := 11) (b := false) rfl rfl (congrArg Value.bool c9_f) (by decide) ?_
  refine S_no (j := 2) (dj := 11) (b := false) rfl rfl (congrArg Value.bool c9_f) (by decide) ?_
  refine S_no (j := 2) (dj := 11) (b := false) rfl rfl (congrArg Value.bool c9_f) (by decide) ?_
  refine S_no (j := 2) (dj := 11) (b := false) rfl rfl (congrArg Value.bool c9_f) (by decide) ?_
  refine S_list (T_pickF (v := (Value.bool false)) (congrArg Value.bool c9_f) rfl ?_)
  refine wpList_nil ?_
  refine (X_then (hK8_ _ _ ?_))
  clear hK8_
  refine C_condF rfl ?_
  refine C_exit (X_thenX (X_thenX (X_blkHit ?_)))
  refine (X_then (hK3_ _ _ ?_))
  clear hK3_
  refine C_seq (fun K15_ hK15_ => ?_)
  refine C_reg ?_
  refine S_list (T_val (v := (Value.int .i64 ((n : Int) - 1))) (x_move rfl) ?_)
  refine S_list (T_val (v := (Value.int .i64 ((n : Int) - 1))) (x_assign rfl) ?_)
  refine wpList_nil ?_
  refine (X_then (hK15_ _ _ ?_))
  clear hK15_
  refine C_ret ?_
  refine R_any (v := (Value.int .i64 ((n : Int) - 1))) (run_results1 rfl rfl) ?_
  exact ⟨_, _, rfl, ⟨(congrArg (Value.int .i64) ((by rw [hin]; first | (rw [vLastN_yes' hx11_ (by omega) (by omega)]; done) | (obtain rfl : n = 0 := (by omega); rfl)) : (n : Int) - 1 = (vLastN L at_ L.length : Int) - 1)), rfl⟩, S6_, H5_⟩

set_option maxHeartbeats 400000 in
theorem kHolds (R : HP) (v : Value) (L : List VR) (at_ : Int) (hL : RS R 6 v (List.length L) (L.flatMap VR.cells)) (hl : L.length ≤ 10000) :
    Tri Try.prog 29 #[v, (Value.int .i64 at_)] R [] (fun v__ post__ => v__ = (Value.tuple #[(Value.agg #[(Value.int .i64 ((vHold L at_).rev_Main)), (Value.int .i64 ((vHold L at_).rev_Sub)), (Value.int .i64 ((vHold L at_).created_Main)), (Value.int .i64 ((vHold L at_).created_Sub)), (Value.int .i64 ((vHold L at_).ver)), (Value.bool ((vHold L at_).gone))]), (Value.bool (vHoldB L at_))]) ∧ post__ = []) := by
 refine Tri.into (n := 24) (al := [v, (Value.int .i64 at_)]) Try.func29 rfl Try.ntmps29 rfl rfl fun w F H => ?_
 refine C_seq (fun K1_ hK1_ => ?_)
 refine C_reg ?_
 refine S_list (T_alloc z66 H ?_)
 intro b2_ w3_ S5_ H4_
 replace H4_ : Holds w3_ (cl b2_ 66 [(Value.int .i64 0), (Value.int .i64 0), (Value.int .i64 0), (Value.int .i64 0), (Value.int .i64 0), (Value.bool false)] :: ro R :: F) := H4_
 have S6_ := Same.trans (Same.refl w) S5_
 refine S_list (T_val (v := (Value.bool false)) (x_assign rfl) ?_)
 refine wpList_nil ?_
 refine (X_then (hK1_ _ _ ?_))
 clear hK1_
 refine C_seq (fun K7_ hK7_ => ?_)
 refine C_reg ?_
 refine S_list (T_val (v := v) (x_move rfl) ?_)
 refine S_list (T_val (v := (Value.int .i64 at_)) (x_move rfl) ?_)
 have H9_ := ((Holds.bring H4_ 1 rfl) :)
 refine S_list (T_call (al := [v, (Value.int .i64 at_)]) (pre := []) rfl rfl cb52 (kLast R v L at_ hL (by first | assumption | omega)) H9_ ?_)
 rintro v8_ p13_ w10_ ⟨rfl, rfl⟩ S12_ H11_
 have S14_ := Same.trans S6_ S12_
 refine S_list (T_val (v := (Value.int .i64 ((vLastN L at_ L.length : Int) - 1))) (x_assign rfl) ?_)
 refine wpList_nil ?_
 refine (X_then (hK7_ _ _ ?_))
 clear hK7_
 refine C_seq (fun K15_ hK15_ => ?_)
 refine C_seq (fun K16_ hK16_ => ?_)
 refine C_reg ?_
 refine S_list (T_val (v := (Value.int .i64 ((vLastN L at_ L.length : Int) - 1))) (x_move rfl) ?_)
 refine S_list (T_val (v := (Value.bool (decide ((vLastN L at_ L.length : Int) - 1 < 0)))) (x_bin rfl rfl rfl) ?_)
 refine S_list (T_val (v := (Value.bool (decide ((vLastN L at_ L.length : Int) - 1 < 0)))) (x_move rfl) ?_)
 rcases Bool.eq_false_or_eq_true (decide ((vLastN L at_ L.length : Int) - 1 < 0)) with c17_t | c17_f
 ·have c17_tp : (vLastN L at_ L.length : Int) - 1 < 0 := of_decide_eq_true c17_t
  have hll_ := vLastN_le L at_ L.length
  refine S_no (j := 2) (dj := 12) (b := true) rfl rfl (congrArg Value.bool c17_t) (by decide) ?_
  refine S_no (j := 2) (dj := 12) (b := true) rfl rfl (congrArg Value.bool c17_t) (by decide) ?_
  refine S_no (j := 2) (dj := 12) (b := true) rfl rfl (congrArg Value.bool c17_t) (by decide) ?_
  refine S_no (j := 2) (dj := 12) (b := true) rfl rfl (congrArg Value.bool c17_t) (by decide) ?_
  refine S_no (j := 2) (dj := 12) (b := true) rfl rfl (congrArg Value.bool c17_t) (by decide) ?_
  refine S_list (T_pickT (v := (Value.bool true)) (congrArg Value.bool c17_t) rfl ?_)
  refine wpList_nil ?_
  refine (X_then (hK16_ _ _ ?_))
  clear hK16_
  refine C_condT rfl ?_
  refine C_seq (fun K18_ hK18_ => ?_)
  refine C_reg ?_
  refine S_list (T_val (v := (Value.agg #[(Value.int .i64 0), (Value.int .i64 0), (Value.int .i64 0), (Value.int .i64 0), (Value.int .i64 0), (Value.bool false)])) (by kernel_rfl) ?_)
  refine S_list0 (T_storeN (vs := [(Value.int .i64 0), (Value.int .i64 0), (Value.int .i64 0), (Value.int .i64 0), (Value.int .i64 0), (Value.bool false)]) rfl rfl z66 rfl (by simp [Value.oneCell']) H11_ 1 rfl (Nat.le_of_ble_eq_true (by rfl)) ?_)
  intro w19_ S21_ H20_
  replace H20_ : Holds w19_ (ro R :: cl b2_ 66 [(Value.int .i64 0), (Value.int .i64 0), (Value.int .i64 0), (Value.int .i64 0), (Value.int .i64 0), (Value.bool false)] :: F) := H20_
  have S22_ := Same.trans S14_ S21_
  refine S_list (T_val (v := (Value.bool false)) (x_assign rfl) ?_)
  refine wpList_nil ?_
  refine (X_then (hK18_ _ _ ?_))
  clear hK18_
  refine C_ret (X_thenR ?_)
  refine R_any (v := (Value.tuple #[(Value.agg #[(Value.int .i64 0), (Value.int .i64 0), (Value.int .i64 0), (Value.int .i64 0), (Value.int .i64 0), (Value.bool false)]), (Value.bool false)])) (run_results2 rfl ⟨_, rfl, load_resN Try.underlying66 rfl z66 rfl (vs := [(Value.int .i64 0), (Value.int .i64 0), (Value.int .i64 0), (Value.int .i64 0), (Value.int .i64 0), (Value.bool false)]) (Holds.cl_cells H20_ 1 rfl 0 rfl)⟩ rfl) ?_
  have hX_ := vHold_zero c17_tp
  have H23_ : Holds w19_ (ro R :: F) := (Holds.pkF H20_ [0] 1 :)
  exact ⟨_, _, rfl, ⟨(congrArg (fun l => Value.tuple (List.toArray l)) (lcons (congrArg (fun l => Value.agg (List.toArray l)) (lcons (congrArg (Value.int .i64) ((by simp [vHold, vHoldB, hX_, vZero]) : 0 = (vHold L at_).rev_Main)) (lcons (congrArg (Value.int .i64) ((by simp [vHold, vHoldB, hX_, vZero]) : 0 = (vHold L at_).rev_Sub)) (lcons (congrArg (Value.int .i64) ((by simp [vHold, vHoldB, hX_, vZero]) : 0 = (vHold L at_).created_Main)) (lcons (congrArg (Value.int .i64) ((by simp [vHold, vHoldB, hX_, vZero]) : 0 = (vHold L at_).created_Sub)) (lcons (congrArg (Value.int .i64) ((by simp [vHold, vHoldB, hX_, vZero]) : 0 = (vHold L at_).ver)) (lcons (congrArg Value.bool ((by simp [vHold, vHoldB, hX_, vZero]) : false = ((vHold L at_).gone))) rfl))))))) (lcons (congrArg Value.bool ((by simp [vHold, vHoldB, hX_, vZero]) : false = (vHoldB L at_))) rfl))), rfl⟩, S22_, H23_⟩
 ·have c17_fp : ¬ ((vLastN L at_ L.length : Int) - 1 < 0) := of_decide_eq_false c17_f
  have hll_ := vLastN_le L at_ L.length
  refine S_yes (j := 2) (dj := 12) (b := false) rfl rfl (congrArg Value.bool c17_f) (T_val (v := v) (x_move rfl) ?_)
  refine S_yes (j := 2) (dj := 12) (b := false) rfl rfl (congrArg Value.bool c17_f) (T_val (v := (Value.int .i64 ((vLastN L at_ L.length : Int) - 1))) (x_move rfl) ?_)
  obtain ⟨x24_, hx25_, hm26_⟩ := elem_at L (((vLastN L at_ L.length : Int) - 1).toNat) (by omega)
  refine S_yes (j := 2) (dj := 12) (b := false) rfl rfl (congrArg Value.bool c17_f) (T_val (v := (Value.pointer (some ⟨(sb v), so v + ((((vLastN L at_ L.length : Int) - 1).toNat) * 6 + 0), none⟩))) (x_idxRS (v := v) rfl hL rfl Try.underlying23 z66 (by omega) (by omega) (by omega : _ = ((vLastN L at_ L.length : Int) - 1).toNat) rfl) ?_)
  refine S_yes (j := 2) (dj := 12) (b := false) rfl rfl (congrArg Value.bool c17_f) (T_val (v := (Value.pointer (some ⟨(sb v), so v + ((((vLastN L at_ L.length : Int) - 1).toNat) * 6 + 5), none⟩))) (by kernel_rfl) ?_)
  refine S_yes (j := 2) (dj := 12) (b := false) rfl rfl (congrArg Value.bool c17_f) (T_val (v := (Value.bool x24_.gone)) (x_load1 rfl Try.underlying4 rfl (RC.cell (RS.rc hL) (Holds.ro_at H11_ 0 rfl) (j := (((vLastN L at_ L.length : Int) - 1).toNat) * 6 + 5) (u := (Value.bool x24_.gone)) (fm_cell VR.len hx25_ (i := 5) rfl))) ?_)
  refine S_list (T_pickF (v := (Value.bool x24_.gone)) (congrArg Value.bool c17_f) rfl ?_)
  refine wpList_nil ?_
  refine (X_then (hK16_ _ _ ?_))
  clear hK16_
  refine C_cond (b := x24_.gone) rfl (fun c27_t => ?_) (fun c27_f => ?_)
  ·skip
   have hll_ := vLastN_le L at_ L.length
   refine C_seq (fun K28_ hK28_ => ?_)
   refine C_reg ?_
   refine S_list (T_val (v := (Value.agg #[(Value.int .i64 0), (Value.int .i64 0), (Value.int .i64 0), (Value.int .i64 0), (Value.int .i64 0), (Value.bool false)])) (by kernel_rfl) ?_)
   refine S_list0 (T_storeN (vs := [(Value.int .i64 0), (Value.int .i64 0), (Value.int .i64 0), (Value.int .i64 0), (Value.int .i64 0), (Value.bool false)]) rfl rfl z66 rfl (by simp [Value.oneCell']) H11_ 1 rfl (Nat.le_of_ble_eq_true (by rfl)) ?_)
   intro w29_ S31_ H30_
   have S32_ := Same.trans S14_ S31_
   refine S_list (T_val (v := (Value.bool false)) (x_assign rfl) ?_)
   refine wpList_nil ?_
   refine (X_then (hK28_ _ _ ?_))
   clear hK28_
   refine C_ret (X_thenR ?_)
   refine R_any (v := (Value.tuple #[(Value.agg #[(Value.int .i64 0), (Value.int .i64 0), (Value.int .i64 0), (Value.int .i64 0), (Value.int .i64 0), (Value.bool false)]), (Value.bool false)])) (run_results2 rfl ⟨_, rfl, load_resN Try.underlying66 rfl z66 rfl (vs := [(Value.int .i64 0), (Value.int .i64 0), (Value.int .i64 0), (Value.int .i64 0), (Value.int .i64 0), (Value.bool false)]) (Holds.cl_cells H30_ 1 rfl 0 rfl)⟩ rfl) ?_
   have hX_ := vHold_at hx25_ c17_fp
   rw [c27_t] at hX_
   have H33_ : Holds w29_ (ro R :: F) := (Holds.pkF H30_ [0] 1 :)
   exact ⟨_, _, rfl, ⟨(congrArg (fun l => Value.tuple (List.toArray l)) (lcons (congrArg (fun l => Value.agg (List.toArray l)) (lcons (congrArg (Value.int .i64) ((by simp [vHold, vHoldB, hX_, vZero]) : 0 = (vHold L at_).rev_Main)) (lcons (congrArg (Value.int .i64) ((by simp [vHold, vHoldB, hX_, vZero]) : 0 = (vHold L at_).rev_Sub)) (lcons (congrArg (Value.int .i64) ((by simp [vHold, vHoldB, hX_, vZero]) : 0 = (vHold L at_).created_Main)) (lcons (congrArg (Value.int .i64) ((by simp [vHold, vHoldB, hX_, vZero]) : 0 = (vHold L at_).created_Sub)) (lcons (congrArg (Value.int .i64) ((by simp [vHold, vHoldB, hX_, vZero]) : 0 = (vHold L at_).ver)) (lcons (congrArg Value.bool ((by simp [vHold, vHoldB, hX_, vZero]) : false = ((vHold L at_).gone))) rfl))))))) (lcons (congrArg Value.bool ((by simp [vHold, vHoldB, hX_, vZero]) : false = (vHoldB L at_))) rfl))), rfl⟩, S32_, H33_⟩
  ·skip
   have hll_ := vLastN_le L at_ L.length
   refine C_skip (X_then (hK15_ _ _ ?_))
   clear hK15_
   refine C_seq (fun K34_ hK34_ => ?_)
   refine C_reg ?_
   refine S_list (T_val (v := v) (x_move rfl) ?_)
   refine S_list (T_val (v := (Value.int .i64 ((vLastN L at_ L.length : Int) - 1))) (x_move rfl) ?_)
   refine S_list (T_val (v := (Value.pointer (some ⟨(sb v), so v + ((((vLastN L at_ L.length : Int) - 1).toNat) * 6 + 0), none⟩))) (x_idxRS (v := v) rfl hL rfl Try.underlying23 z66 (by omega) (by omega) (by omega : _ = ((vLastN L at_ L.length : Int) - 1).toNat) rfl) ?_)
   refine S_list (T_val (v := (Value.agg #[(Value.int .i64 x24_.rev_Main), (Value.int .i64 x24_.rev_Sub), (Value.int .i64 x24_.created_Main), (Value.int .i64 x24_.created_Sub), (Value.int .i64 x24_.ver), (Value.bool x24_.gone)])) (x_loadN (vs := [(Value.int .i64 x24_.rev_Main), (Value.int .i64 x24_.rev_Sub), (Value.int .i64 x24_.created_Main), (Value.int .i64 x24_.created_Sub), (Value.int .i64 x24_.ver), (Value.bool x24_.gone)]) rfl Try.underlying66 rfl z66 rfl (RC.cells (RS.rc hL) (Holds.ro_at H11_ 0 rfl) ((((vLastN L at_ L.length : Int) - 1).toNat) * 6 + 0) (fm_cells VR.len hx25_ (i := 0) rfl))) ?_)
   refine S_list0 (T_storeN (vs := [(Value.int .i64 x24_.rev_Main), (Value.int .i64 x24_.rev_Sub), (Value.int .i64 x24_.created_Main), (Value.int .i64 x24_.created_Sub), (Value.int .i64 x24_.ver), (Value.bool x24_.gone)]) rfl rfl z66 rfl (by simp [Value.oneCell']) H11_ 1 rfl (Nat.le_of_ble_eq_true (by rfl)) ?_)
   intro w35_ S37_ H36_
   have S38_ := Same.trans S14_ S37_
   refine S_list (T_val (v := (Value.bool true)) (x_assign rfl) ?_)
   refine wpList_nil ?_
   refine (X_then (hK34_ _ _ ?_))
   clear hK34_
   refine C_ret ?_
   refine R_any (v := (Value.tuple #[(Value.agg #[(Value.int .i64 x24_.rev_Main), (Value.int .i64 x24_.rev_Sub), (Value.int .i64 x24_.created_Main), (Value.int .i64 x24_.created_Sub), (Value.int .i64 x24_.ver), (Value.bool x24_.gone)]), (Value.bool true)])) (run_results2 rfl ⟨_, rfl, load_resN Try.underlying66 rfl z66 rfl (vs := [(Value.int .i64 x24_.rev_Main), (Value.int .i64 x24_.rev_Sub), (Value.int .i64 x24_.created_Main), (Value.int .i64 x24_.created_Sub), (Value.int .i64 x24_.ver), (Value.bool x24_.gone)]) (Holds.cl_cells H36_ 1 rfl 0 rfl)⟩ rfl) ?_
   have hX_ := vHold_at hx25_ c17_fp
   rw [c27_f] at hX_
   have H39_ : Holds w35_ (ro R :: F) := (Holds.pkF H36_ [0] 1 :)
   exact ⟨_, _, rfl, ⟨(congrArg (fun l => Value.tuple (List.toArray l)) (lcons (congrArg (fun l => Value.agg (List.toArray l)) (lcons (congrArg (Value.int .i64) ((by simp [vHold, vHoldB, hX_, vZero]) : x24_.rev_Main = (vHold L at_).rev_Main)) (lcons (congrArg (Value.int .i64) ((by simp [vHold, vHoldB, hX_, vZero]) : x24_.rev_Sub = (vHold L at_).rev_Sub)) (lcons (congrArg (Value.int .i64) ((by simp [vHold, vHoldB, hX_, vZero]) : x24_.created_Main = (vHold L at_).created_Main)) (lcons (congrArg (Value.int .i64) ((by simp [vHold, vHoldB, hX_, vZero]) : x24_.created_Sub = (vHold L at_).created_Sub)) (lcons (congrArg (Value.int .i64) ((by simp [vHold, vHoldB, hX_, vZero]) : x24_.ver = (vHold L at_).ver)) (lcons (congrArg Value.bool ((by simp [vHold, vHoldB, hX_, vZero]) : x24_.gone = ((vHold L at_).gone))) rfl))))))) (lcons (congrArg Value.bool ((by simp [vHold, vHoldB, hX_, vZero]) : true = (vHoldB L at_))) rfl))), rfl⟩, S38_, H39_⟩
end Go.Proofs.Ytiblemgccgbhoaa
