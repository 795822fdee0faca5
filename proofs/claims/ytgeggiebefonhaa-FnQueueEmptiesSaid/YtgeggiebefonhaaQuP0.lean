/- Taking all out of a queue of leases: the walk. -/
import Derived.Test.YtgeggiebefonhaaQuO
set_option linter.unusedVariables false
set_option linter.unusedSimpArgs false
namespace Go.Proofs.Ytgeggiebefonhaa
open Go Go.RowKit Gw

set_option maxHeartbeats 400000 in
theorem qAwake (R : HP) :
    Tri Try.prog 10 #[] R [] (fun v__ post__ => v__ = (Value.bool true) ∧ post__ = []) := by
  refine Tri.into (n := 47) (al := []) Try.func10 rfl Try.ntmps10 rfl rfl fun w F H => ?_
  replace H : Holds w (ro R :: F) := H
  refine C_seq (fun K1_ hK1_ => ?_)
  refine C_reg ?_
  refine S_list (T_val (v := (Value.bool false)) (x_assign rfl) ?_)
  refine wpList_nil ?_
  refine (X_then (hK1_ _ _ ?_))
  clear hK1_
  refine C_seq (fun K2_ hK2_ => ?_)
  refine C_reg ?_
  refine S_list (T_val (v := (Value.agg #[(Value.int .i64 1), (Value.int .i64 1), (Value.int .i64 5)])) (by kernel_rfl) ?_)
  refine S_list (T_val (v := (Value.agg #[(Value.int .i64 1), (Value.int .i64 2), (Value.int .i64 3)])) (by kernel_rfl) ?_)
  refine S_list (T_val (v := (Value.agg #[(Value.int .i64 2), (Value.int .i64 0), (Value.int .i64 0)])) (by kernel_rfl) ?_)
  refine S_list (T_val (v := (Value.agg #[(Value.int .i64 1), (Value.int .i64 2), (Value.int .i64 9)])) (by kernel_rfl) ?_)
  refine S_list (T_val (v := (Value.agg #[(Value.int .i64 3), (Value.int .i64 0), (Value.int .i64 0)])) (by kernel_rfl) ?_)
  refine S_list (T_val (v := (Value.agg #[(Value.int .i64 4), (Value.int .i64 0), (Value.int .i64 0)])) (by kernel_rfl) ?_)
  refine S_list (T_new (obj := .cells #[(Value.int .i64 1), (Value.int .i64 1), (Value.int .i64 5), (Value.int .i64 1), (Value.int .i64 2), (Value.int .i64 3), (Value.int .i64 2), (Value.int .i64 0), (Value.int .i64 0), (Value.int .i64 1), (Value.int .i64 2), (Value.int .i64 9), (Value.int .i64 3), (Value.int .i64 0), (Value.int .i64 0), (Value.int .i64 4), (Value.int .i64 0), (Value.int .i64 0)] 25) (f := fun b__ => .slice (some ⟨b__, 0, none⟩) 6 6) (A := fun b__ => cl b__ 25 [(Value.int .i64 1), (Value.int .i64 1), (Value.int .i64 5), (Value.int .i64 1), (Value.int .i64 2), (Value.int .i64 3), (Value.int .i64 2), (Value.int .i64 0), (Value.int .i64 0), (Value.int .i64 1), (Value.int .i64 2), (Value.int .i64 9), (Value.int .i64 3), (Value.int .i64 0), (Value.int .i64 0), (Value.int .i64 4), (Value.int .i64 0), (Value.int .i64 0)]) (by kernel_rfl) (fun l h => h.alloc _ _) H ?_)
  intro b3_ w4_ S6_ H5_
  replace H5_ : Holds w4_ (cl b3_ 25 [(Value.int .i64 1), (Value.int .i64 1), (Value.int .i64 5), (Value.int .i64 1), (Value.int .i64 2), (Value.int .i64 3), (Value.int .i64 2), (Value.int .i64 0), (Value.int .i64 0), (Value.int .i64 1), (Value.int .i64 2), (Value.int .i64 9), (Value.int .i64 3), (Value.int .i64 0), (Value.int .i64 0), (Value.int .i64 4), (Value.int .i64 0), (Value.int .i64 0)] :: ro R :: F) := H5_
  have S7_ := Same.trans (Same.refl w) S6_
  have H8_ : Holds w4_ (ro R :: cl b3_ 25 [(Value.int .i64 1), (Value.int .i64 1), (Value.int .i64 5), (Value.int .i64 1), (Value.int .i64 2), (Value.int .i64 3), (Value.int .i64 2), (Value.int .i64 0), (Value.int .i64 0), (Value.int .i64 1), (Value.int .i64 2), (Value.int .i64 9), (Value.int .i64 3), (Value.int .i64 0), (Value.int .i64 0), (Value.int .i64 4), (Value.int .i64 0), (Value.int .i64 0)] :: F) := (Holds.bring (Holds.bring H5_ 0 rfl) 1 rfl)
  obtain ⟨R9_, hs10_, ⟨R11_, ha12_, hs13_⟩, H14_⟩ := Holds.gift H8_
  replace H14_ : Holds w4_ (ro R9_ :: F) := H14_
  have hr15_ : RS R9_ 3 (Value.slice (some ⟨b3_, 0, none⟩) 6 6) 6 (awakeOps.flatMap QOp.cells) := (RS.set_ (cl_RSn (sz := 3) ha12_ (Sub.rfl' _) (by rfl) (by omega)) rfl rfl).mono hs13_
  refine S_list (T_call (al := [((Value.slice (some ⟨b3_, 0, none⟩) 6 6))]) (pre := []) (F := F) rfl (lcons (rfl : (Value.slice (some ⟨b3_, 0, none⟩) 6 6) = ((Value.slice (some ⟨b3_, 0, none⟩) 6 6))) rfl) cb9 (qQueue R9_ (Value.slice (some ⟨b3_, 0, none⟩) 6 6) awakeOps (RS.set_ hr15_ rfl (by first | rfl | omega | (simp; done) | (simp; omega))) (by decide) (by decide)) H14_ ?_)
  rintro v16_ p23_ w20_ ⟨_, an17_, D18_, rfl, rfl, he19_⟩ S22_ H21_
  replace H21_ : Holds w20_ (ro R9_ :: sl 30 4 v16_ (List.length an17_) (an17_.flatMap QAns.cells) :: F) := H21_
  have S24_ := Same.trans S7_ S22_
  obtain rfl := awake he19_
  have H25_ : Holds w20_ (ro R9_ :: sl 30 4 v16_ 6 ([(⟨true, 0, 0, 0⟩ : QAns), ⟨true, 0, 0, 0⟩, ⟨true, 2, 3, 0⟩, ⟨true, 0, 0, 0⟩, ⟨true, 1, 5, 0⟩, ⟨true, 0, 0, 1⟩].flatMap QAns.cells) :: F) := H21_
  refine S_list (T_val (v := v16_) (x_assign rfl) ?_)
  refine wpList_nil ?_
  refine (X_then (hK2_ _ _ ?_))
  clear hK2_
  refine C_seq (fun K26_ hK26_ => ?_)
  refine C_reg ?_
  refine S_list (T_val (v := v16_) (x_move rfl) ?_)
  refine S_list (T_val (v := (Value.int .i64 6)) (x_lenSl rfl H25_ 1 rfl Try.underlying27) ?_)
  refine S_list (T_val (v := (Value.bool true)) (x_bin rfl rfl rfl) ?_)
  refine S_list (T_val (v := (Value.bool true)) (x_move rfl) ?_)
  refine S_yes (j := 3) (dj := 13) (b := true) rfl rfl rfl (T_val (v := v16_) (x_move rfl) ?_)
  have hr27_ := Holds.sl_RSw H25_ 1 rfl
  refine S_yes (j := 3) (dj := 13) (b := true) rfl rfl rfl (T_val (v := (Value.pointer (some ⟨(sb v16_), so v16_ + (2 * 4 + 0), none⟩))) (x_idxSlR (v := v16_) rfl hr27_ rfl Try.underlying27 z30 (by omega) (by omega) (by omega : _ = 2) rfl) ?_)
  refine S_yes (j := 3) (dj := 13) (b := true) rfl rfl rfl (T_val (v := (Value.pointer (some ⟨(sb v16_), so v16_ + (2 * 4 + 0), none⟩))) (by kernel_rfl) ?_)
  refine S_yes (j := 3) (dj := 13) (b := true) rfl rfl rfl (T_val (v := (Value.bool true)) (x_load1 rfl Try.underlying4 rfl ((Holds.slrd H25_ 1 rfl) _ _ (fm_cell QAns.len (rfl : [(⟨true, 0, 0, 0⟩ : QAns), ⟨true, 0, 0, 0⟩, ⟨true, 2, 3, 0⟩, ⟨true, 0, 0, 0⟩, ⟨true, 1, 5, 0⟩, ⟨true, 0, 0, 1⟩][2]? = some _) (i := 0) rfl))) ?_)
  refine S_list (T_pickT (v := (Value.bool true)) rfl rfl ?_)
  refine S_list (T_val (v := (Value.bool true)) (x_move rfl) ?_)
  refine S_yes (j := 9) (dj := 19) (b := true) rfl rfl rfl (T_val (v := v16_) (x_move rfl) ?_)
  refine S_yes (j := 9) (dj := 19) (b := true) rfl rfl rfl (T_val (v := (Value.pointer (some ⟨(sb v16_), so v16_ + (2 * 4 + 0), none⟩))) (x_idxSlR (v := v16_) rfl hr27_ rfl Try.underlying27 z30 (by omega) (by omega) (by omega : _ = 2) rfl) ?_)
  refine S_yes (j := 9) (dj := 19) (b := true) rfl rfl rfl (T_val (v := (Value.pointer (some ⟨(sb v16_), so v16_ + (2 * 4 + 1), none⟩))) (by kernel_rfl) ?_)
  refine S_yes (j := 9) (dj := 19) (b := true) rfl rfl rfl (T_val (v := (Value.int .i64 2)) (x_load1 rfl Try.underlying2 rfl ((Holds.slrd H25_ 1 rfl) _ _ (fm_cell QAns.len (rfl : [(⟨true, 0, 0, 0⟩ : QAns), ⟨true, 0, 0, 0⟩, ⟨true, 2, 3, 0⟩, ⟨true, 0, 0, 0⟩, ⟨true, 1, 5, 0⟩, ⟨true, 0, 0, 1⟩][2]? = some _) (i := 1) rfl))) ?_)
  refine S_yes (j := 9) (dj := 19) (b := true) rfl rfl rfl (T_val (v := (Value.bool true)) (x_bin rfl rfl rfl) ?_)
  refine S_list (T_pickT (v := (Value.bool true)) rfl rfl ?_)
  refine S_list (T_val (v := (Value.bool true)) (x_move rfl) ?_)
  refine S_yes (j := 16) (dj := 26) (b := true) rfl rfl rfl (T_val (v := v16_) (x_move rfl) ?_)
  refine S_yes (j := 16) (dj := 26) (b := true) rfl rfl rfl (T_val (v := (Value.pointer (some ⟨(sb v16_), so v16_ + (2 * 4 + 0), none⟩))) (x_idxSlR (v := v16_) rfl hr27_ rfl Try.underlying27 z30 (by omega) (by omega) (by omega : _ = 2) rfl) ?_)
  refine S_yes (j := 16) (dj := 26) (b := true) rfl rfl rfl (T_val (v := (Value.pointer (some ⟨(sb v16_), so v16_ + (2 * 4 + 2), none⟩))) (by kernel_rfl) ?_)
  refine S_yes (j := 16) (dj := 26) (b := true) rfl rfl rfl (T_val (v := (Value.int .i64 3)) (x_load1 rfl Try.underlying2 rfl ((Holds.slrd H25_ 1 rfl) _ _ (fm_cell QAns.len (rfl : [(⟨true, 0, 0, 0⟩ : QAns), ⟨true, 0, 0, 0⟩, ⟨true, 2, 3, 0⟩, ⟨true, 0, 0, 0⟩, ⟨true, 1, 5, 0⟩, ⟨true, 0, 0, 1⟩][2]? = some _) (i := 2) rfl))) ?_)
  refine S_yes (j := 16) (dj := 26) (b := true) rfl rfl rfl (T_val (v := (Value.bool true)) (x_bin rfl rfl rfl) ?_)
  refine S_list (T_pickT (v := (Value.bool true)) rfl rfl ?_)
  refine S_list (T_val (v := (Value.bool true)) (x_move rfl) ?_)
  refine S_yes (j := 23) (dj := 33) (b := true) rfl rfl rfl (T_val (v := v16_) (x_move rfl) ?_)
  refine S_yes (j := 23) (dj := 33) (b := true) rfl rfl rfl (T_val (v := (Value.pointer (some ⟨(sb v16_), so v16_ + (4 * 4 + 0), none⟩))) (x_idxSlR (v := v16_) rfl hr27_ rfl Try.underlying27 z30 (by omega) (by omega) (by omega : _ = 4) rfl) ?_)
  refine S_yes (j := 23) (dj := 33) (b := true) rfl rfl rfl (T_val (v := (Value.pointer (some ⟨(sb v16_), so v16_ + (4 * 4 + 1), none⟩))) (by kernel_rfl) ?_)
  refine S_yes (j := 23) (dj := 33) (b := true) rfl rfl rfl (T_val (v := (Value.int .i64 1)) (x_load1 rfl Try.underlying2 rfl ((Holds.slrd H25_ 1 rfl) _ _ (fm_cell QAns.len (rfl : [(⟨true, 0, 0, 0⟩ : QAns), ⟨true, 0, 0, 0⟩, ⟨true, 2, 3, 0⟩, ⟨true, 0, 0, 0⟩, ⟨true, 1, 5, 0⟩, ⟨true, 0, 0, 1⟩][4]? = some _) (i := 1) rfl))) ?_)
  refine S_yes (j := 23) (dj := 33) (b := true) rfl rfl rfl (T_val (v := (Value.bool true)) (x_bin rfl rfl rfl) ?_)
  refine S_list (T_pickT (v := (Value.bool true)) rfl rfl ?_)
  refine S_list (T_val (v := (Value.bool true)) (x_move rfl) ?_)
  refine S_yes (j := 30) (dj := 40) (b := true) rfl rfl rfl (T_val (v := v16_) (x_move rfl) ?_)
  refine S_yes (j := 30) (dj := 40) (b := true) rfl rfl rfl (T_val (v := (Value.pointer (some ⟨(sb v16_), so v16_ + (5 * 4 + 0), none⟩))) (x_idxSlR (v := v16_) rfl hr27_ rfl Try.underlying27 z30 (by omega) (by omega) (by omega : _ = 5) rfl) ?_)
  refine S_yes (j := 30) (dj := 40) (b := true) rfl rfl rfl (T_val (v := (Value.pointer (some ⟨(sb v16_), so v16_ + (5 * 4 + 3), none⟩))) (by kernel_rfl) ?_)
  refine S_yes (j := 30) (dj := 40) (b := true) rfl rfl rfl (T_val (v := (Value.int .i64 1)) (x_load1 rfl Try.underlying3 rfl ((Holds.slrd H25_ 1 rfl) _ _ (fm_cell QAns.len (rfl : [(⟨true, 0, 0, 0⟩ : QAns), ⟨true, 0, 0, 0⟩, ⟨true, 2, 3, 0⟩, ⟨true, 0, 0, 0⟩, ⟨true, 1, 5, 0⟩, ⟨true, 0, 0, 1⟩][5]? = some _) (i := 3) rfl))) ?_)
  refine S_yes (j := 30) (dj := 40) (b := true) rfl rfl rfl (T_val (v := (Value.bool true)) (x_bin rfl rfl rfl) ?_)
  refine S_list (T_pickT (v := (Value.bool true)) rfl rfl ?_)
  refine S_list (T_val (v := (Value.bool true)) (x_assign rfl) ?_)
  refine wpList_nil ?_
  refine (X_then (hK26_ _ _ ?_))
  clear hK26_
  refine C_ret ?_
  refine R_any (v := (Value.bool true)) (run_results1 rfl rfl) ?_
  have H28_ : Holds w20_ (ro R :: sl 30 4 v16_ 6 ([(⟨true, 0, 0, 0⟩ : QAns), ⟨true, 0, 0, 0⟩, ⟨true, 2, 3, 0⟩, ⟨true, 0, 0, 0⟩, ⟨true, 1, 5, 0⟩, ⟨true, 0, 0, 1⟩].flatMap QAns.cells) :: F) := Holds.ro_less H25_ hs10_
  have H29_ : Holds w20_ (ro R :: F) := (Holds.erase (Holds.bring H28_ 0 rfl) 1)
  exact ⟨_, [], rfl, ⟨rfl, rfl⟩, S24_, H29_⟩

set_option maxHeartbeats 2000000 in
theorem fnQueueEmpties (R : HP) (va vb : Value) (ids times : List Int) (hA : RS R 1 va ids.length (ids.map (Value.int .i64))) (hB : RS R 1 vb times.length (times.map (Value.int .i64))) :
    Tri Try.prog 3 #[va, vb] R [] (fun v__ post__ => v__ = (Value.bool true) ∧ post__ = []) := by
  refine Tri.into (n := 187) (al := [va, vb]) Try.func3 rfl Try.ntmps3 rfl rfl fun w F H => ?_
  replace H : Holds w (ro R :: F) := H
  refine C_seq (fun K1_ hK1_ => ?_)
  refine C_reg ?_
  refine S_list (T_val (v := (Value.bool false)) (x_assign rfl) ?_)
  refine wpList_nil ?_
  refine (X_then (hK1_ _ _ ?_))
  clear hK1_
  refine C_seq (fun K2_ hK2_ => ?_)
  refine C_seq (fun K3_ hK3_ => ?_)
  refine C_reg ?_
  refine S_list (T_val (v := va) (x_move rfl) ?_)
  refine S_list (T_val (v := (Value.int .i64 (ids.length : Int))) (x_lenRS rfl hA Try.underlying22) ?_)
  refine S_list (T_val (v := (Value.bool (decide (2147483647 < (ids.length : Int))))) (x_bin rfl rfl rfl) ?_)
  refine S_list (T_val (v := (Value.bool (decide (2147483647 < (ids.length : Int))))) (x_move rfl) ?_)
  rcases Bool.eq_false_or_eq_true (decide (2147483647 < (ids.length : Int))) with c4_t | c4_f
  · have c4_tp : 2147483647 < (ids.length : Int) := of_decide_eq_true c4_t
    refine S_no (j := 3) (dj := 24) (b := true) rfl rfl (congrArg Value.bool c4_t) (by decide) ?_
    refine S_no (j := 3) (dj := 24) (b := true) rfl rfl (congrArg Value.bool c4_t) (by decide) ?_
    refine S_no (j := 3) (dj := 24) (b := true) rfl rfl (congrArg Value.bool c4_t) (by decide) ?_
    refine S_list (T_pickT (v := (Value.bool true)) (congrArg Value.bool c4_t) rfl ?_)
    refine wpList_nil ?_
    refine (X_then (hK3_ _ _ ?_))
    clear hK3_
    refine C_condT rfl ?_
    refine C_seq (fun K5_ hK5_ => ?_)
    refine C_reg ?_
    refine S_list (T_val (v := (Value.bool true)) (x_assign rfl) ?_)
    refine wpList_nil ?_
    refine (X_then (hK5_ _ _ ?_))
    clear hK5_
    refine C_ret (X_thenR ?_)
    refine R_any (v := (Value.bool true)) (run_results1 rfl rfl) ?_
    exact ⟨_, [], rfl, ⟨rfl, rfl⟩, (Same.refl w), H⟩
  · have c4_fp : ¬ (2147483647 < (ids.length : Int)) := of_decide_eq_false c4_f
    refine S_yes (j := 3) (dj := 24) (b := false) rfl rfl (congrArg Value.bool c4_f) (T_val (v := vb) (x_move rfl) ?_)
    refine S_yes (j := 3) (dj := 24) (b := false) rfl rfl (congrArg Value.bool c4_f) (T_val (v := (Value.int .i64 (times.length : Int))) (x_lenRS rfl hB Try.underlying22) ?_)
    refine S_yes (j := 3) (dj := 24) (b := false) rfl rfl (congrArg Value.bool c4_f) (T_val (v := (Value.bool (decide (2147483647 < (times.length : Int))))) (x_bin rfl rfl rfl) ?_)
    refine S_list (T_pickF (v := (Value.bool (decide (2147483647 < (times.length : Int))))) (congrArg Value.bool c4_f) rfl ?_)
    refine wpList_nil ?_
    refine (X_then (hK3_ _ _ ?_))
    clear hK3_
    refine C_cond (b := decide (2147483647 < (times.length : Int))) rfl (fun c6_t => ?_) (fun c6_f => ?_)
    · have c6_tp : 2147483647 < (times.length : Int) := of_decide_eq_true c6_t
      refine C_seq (fun K7_ hK7_ => ?_)
      refine C_reg ?_
      refine S_list (T_val (v := (Value.bool true)) (x_assign rfl) ?_)
      refine wpList_nil ?_
      refine (X_then (hK7_ _ _ ?_))
      clear hK7_
      refine C_ret (X_thenR ?_)
      refine R_any (v := (Value.bool true)) (run_results1 rfl rfl) ?_
      exact ⟨_, [], rfl, ⟨rfl, rfl⟩, (Same.refl w), H⟩
    · have c6_fp : ¬ (2147483647 < (times.length : Int)) := of_decide_eq_false c6_f
      refine C_skip (X_then (hK2_ _ _ ?_))
      clear hK2_
      refine C_seq (fun K8_ hK8_ => ?_)
      refine C_seq (fun K9_ hK9_ => ?_)
      refine C_reg ?_
      refine S_list (T_val (v := va) (x_move rfl) ?_)
      refine S_list (T_val (v := (Value.int .i64 (ids.length : Int))) (x_lenRS rfl hA Try.underlying22) ?_)
      refine S_list (T_val (v := (Value.bool (decide (60 < (ids.length : Int))))) (x_bin rfl rfl rfl) ?_)
      refine S_list (T_val (v := (Value.bool (decide (60 < (ids.length : Int))))) (x_move rfl) ?_)
      rcases Bool.eq_false_or_eq_true (decide (60 < (ids.length : Int))) with c10_t | c10_f
      · have c10_tp : 60 < (ids.length : Int) := of_decide_eq_true c10_t
        refine S_no (j := 3) (dj := 32) (b := true) rfl rfl (congrArg Value.bool c10_t) (by decide) ?_
        refine S_no (j := 3) (dj := 32) (b := true) rfl rfl (congrArg Value.bool c10_t) (by decide) ?_
        refine S_no (j := 3) (dj := 32) (b := true) rfl rfl (congrArg Value.bool c10_t) (by decide) ?_
        refine S_no (j := 3) (dj := 32) (b := true) rfl rfl (congrArg Value.bool c10_t) (by decide) ?_
        refine S_no (j := 3) (dj := 32) (b := true) rfl rfl (congrArg Value.bool c10_t) (by decide) ?_
        refine S_list (T_pickT (v := (Value.bool true)) (congrArg Value.bool c10_t) rfl ?_)
        refine wpList_nil ?_
        refine (X_then (hK9_ _ _ ?_))
        clear hK9_
        refine C_condT rfl ?_
        refine C_seq (fun K11_ hK11_ => ?_)
        refine C_reg ?_
        refine S_list (T_val (v := (Value.bool true)) (x_assign rfl) ?_)
        refine wpList_nil ?_
        refine (X_then (hK11_ _ _ ?_))
        clear hK11_
        refine C_ret (X_thenR ?_)
        refine R_any (v := (Value.bool true)) (run_results1 rfl rfl) ?_
        exact ⟨_, [], rfl, ⟨rfl, rfl⟩, (Same.refl w), H⟩
      · have c10_fp : ¬ (60 < (ids.length : Int)) := of_decide_eq_false c10_f
        refine S_yes (j := 3) (dj := 32) (b := false) rfl rfl (congrArg Value.bool c10_f) (T_val (v := vb) (x_move rfl) ?_)
        refine S_yes (j := 3) (dj := 32) (b := false) rfl rfl (congrArg Value.bool c10_f) (T_val (v := (Value.int .i64 (times.length : Int))) (x_lenRS rfl hB Try.underlying22) ?_)
        refine S_yes (j := 3) (dj := 32) (b := false) rfl rfl (congrArg Value.bool c10_f) (T_val (v := va) (x_move rfl) ?_)
        refine S_yes (j := 3) (dj := 32) (b := false) rfl rfl (congrArg Value.bool c10_f) (T_val (v := (Value.int .i64 (ids.length : Int))) (x_lenRS rfl hA Try.underlying22) ?_)
        refine S_yes (j := 3) (dj := 32) (b := false) rfl rfl (congrArg Value.bool c10_f) (T_val (v := (Value.bool (decide ((times.length : Int) ≠ (ids.length : Int))))) (x_bin rfl rfl rfl) ?_)
        refine S_list (T_pickF (v := (Value.bool (decide ((times.length : Int) ≠ (ids.length : Int))))) (congrArg Value.bool c10_f) rfl ?_)
        refine wpList_nil ?_
        refine (X_then (hK9_ _ _ ?_))
        clear hK9_
        refine C_cond (b := decide ((times.length : Int) ≠ (ids.length : Int))) rfl (fun c12_t => ?_) (fun c12_f => ?_)
        · have c12_tp : (times.length : Int) ≠ (ids.length : Int) := of_decide_eq_true c12_t
          refine C_seq (fun K13_ hK13_ => ?_)
          refine C_reg ?_
          refine S_list (T_val (v := (Value.bool true)) (x_assign rfl) ?_)
          refine wpList_nil ?_
          refine (X_then (hK13_ _ _ ?_))
          clear hK13_
          refine C_ret (X_thenR ?_)
          refine R_any (v := (Value.bool true)) (run_results1 rfl rfl) ?_
          exact ⟨_, [], rfl, ⟨rfl, rfl⟩, (Same.refl w), H⟩
        · have c12_fp : ¬ ((times.length : Int) ≠ (ids.length : Int)) := of_decide_eq_false c12_f
          refine C_skip (X_then (hK8_ _ _ ?_))
          clear hK8_
          refine C_seq (fun K14_ hK14_ => ?_)
          refine C_reg ?_
          refine S_list (T_val (v := (Value.slice none 0 0)) (x_assign rfl) ?_)
          refine wpList_nil ?_
          refine (X_then (hK14_ _ _ ?_))
          clear hK14_
          refine C_seq (fun K15_ hK15_ => ?_)
          refine C_seq (fun K16_ hK16_ => ?_)
          refine C_reg ?_
          refine S_list (T_val (v := va) (x_move rfl) ?_)
          refine S_list (T_val (v := (Value.int .i64 (ids.length : Int))) (x_lenRS rfl hA Try.underlying22) ?_)
          refine S_list (T_val (v := (Value.int .i64 0)) (x_move rfl) ?_)
          refine wpList_nil ?_
          refine (X_then (hK16_ _ _ ?_))
          clear hK16_
          refine C_block ?_
          have H17_ : Holds w (sl 25 3 (Value.slice none 0 0) (List.length (regs (List.take 0 (List.zip ids times)))) ((regs (List.take 0 (List.zip ids times))).flatMap QOp.cells) :: ro R :: F) := Holds.add_nil H 25 3
          refine C_loop (γ := Nat × Value) (fun x a w1 => match x with | ⟨k, vl⟩ => ∃ h : Env, a = mkA 187 (upd (upd (upd (upd (upd (upd h 0 va) 1 vb) 4 (Value.bool false)) 5 vl) 40 (Value.int .i64 (ids.length : Int))) 41 (Value.int .i64 (k : Int))) [] ∧ Holds w1 (sl 25 3 vl (List.length (regs (List.take k (List.zip ids times)))) ((regs (List.take k (List.zip ids times))).flatMap QOp.cells) :: ro R :: F) ∧ Same w w1 ∧ (k ≤ ids.length)) (fun x => match x with | ⟨k, vl⟩ => ids.length - k) (⟨0, (Value.slice none 0 0)⟩) ⟨_, congrArg (fun e => mkA 187 e []) (ch (ch (ch (ch (ch (ch rfl rfl) rfl) rfl) (rfl : (Value.slice none 0 0) = ((Value.slice none 0 0)))) rfl) (congrArg (Value.int .i64) ((by first | rfl | omega | (simp; done) | (simp; omega)) : 0 = (0 : Int)))), H17_, (Same.refl w), (by first | assumption | omega | exact rfl)⟩ ?_
          rintro ⟨k, vl⟩ _ w18_ ⟨h, rfl, H19_, S20_, hk⟩
          have hrl : (regs (List.take k (List.zip ids times))).length ≤ k := by simp [regs]; omega
          refine C_seq (fun K21_ hK21_ => ?_)
          refine C_reg ?_
          refine S_list (T_val (v := (Value.bool (decide ((k : Int) < (ids.length : Int))))) (x_bin rfl rfl rfl) ?_)
          refine wpList_nil ?_
          refine (X_then (hK21_ _ _ ?_))
          clear hK21_
          refine C_seq (fun K22_ hK22_ => ?_)
          refine C_cond (b := decide ((k : Int) < (ids.length : Int))) rfl (fun c23_t => ?_) (fun c23_f => ?_)
          · have c23_tp : (k : Int) < (ids.length : Int) := of_decide_eq_true c23_t
            refine C_skip (X_then (hK22_ _ _ ?_))
            clear hK22_
            refine C_seq (fun K24_ hK24_ => ?_)
            refine C_block ?_
            refine C_seq (fun K25_ hK25_ => ?_)
            refine C_reg ?_
            refine S_list (T_val (v := (Value.int .i64 (k : Int))) (x_move rfl) ?_)
            refine S_list (T_val (v := (Value.int .i64 (k : Int))) (x_assign rfl) ?_)
            refine wpList_nil ?_
            refine (X_then (hK25_ _ _ ?_))
            clear hK25_
            refine A_start (S := fun w => Sub R (hp w)) (N := 13) foll rfl rfl ?_
            have H26_ : Holds w18_.drew (sl 25 3 vl (List.length (regs (List.take k (List.zip ids times)))) ((regs (List.take k (List.zip ids times))).flatMap QOp.cells) :: ro R :: F) := H19_
            refine A_take 0 (ls' := #[true, false, false, false, false, false, false, false, false, false, false, false, false]) (v := vl) rfl (by kernel_rfl) (by kernel_rfl) (by kernel_rfl) (by kernel_rfl) (fun _ _ _ h => h) (fun w hS => x_move rfl) ((Holds.ro_at H26_ 1 rfl)) ?_
            refine A_take 1 (ls' := #[true, true, false, false, false, false, false, false, false, false, false, false, false]) (v := va) rfl (by kernel_rfl) (by kernel_rfl) (by kernel_rfl) (by kernel_rfl) (fun _ _ _ h => h) (fun w hS => x_move rfl) ((Holds.ro_at H26_ 1 rfl)) ?_
            refine A_take 2 (ls' := #[true, true, true, false, false, false, false, false, false, false, false, false, false]) (v := (Value.int .i64 (k : Int))) rfl (by kernel_rfl) (by kernel_rfl) (by kernel_rfl) (by kernel_rfl) (fun _ _ _ h => h) (fun w hS => x_move rfl) ((Holds.ro_at H26_ 1 rfl)) ?_
            obtain ⟨x27_, hx28_, hm29_⟩ := elem_at ids k (by first | omega | (simp only [List.length_take, List.length_map]; omega))
            refine A_take 3 (ls' := #[true, true, true, true, false, false, false, false, false, false, false, false, false]) (v := (Value.pointer (some ⟨(sb va), so va + k, none⟩))) rfl (by kernel_rfl) (by kernel_rfl) (by kernel_rfl) (by kernel_rfl) (fun _ _ _ h => h) (fun w hS => x_idxRS (v := va) rfl hA rfl Try.underlying22 z2 (by omega) (by omega) (by omega : _ = k) (by rw [Nat.mul_one])) ((Holds.ro_at H26_ 1 rfl)) ?_
            refine A_take 4 (ls' := #[true, true, true, true, true, false, false, false, false, false, false, false, false]) (v := (Value.int .i64 x27_)) rfl (by kernel_rfl) (by kernel_rfl) (by kernel_rfl) (by kernel_rfl) (fun _ _ _ h => h) (fun w hS => x_load1 rfl Try.underlying2 rfl (RC.cell (RS.rc hA) hS (j := k) (u := (Value.int .i64 x27_)) ((map_at hx28_)))) ((Holds.ro_at H26_ 1 rfl)) ?_
            refine A_take 5 (ls' := #[true, true, true, true, true, true, false, false, false, false, false, false, false]) (v := vb) rfl (by kernel_rfl) (by kernel_rfl) (by kernel_rfl) (by kernel_rfl) (fun _ _ _ h => h) (fun w hS => x_move rfl) ((Holds.ro_at H26_ 1 rfl)) ?_
            refine A_take 6 (ls' := #[true, true, true, true, true, true, true, false, false, false, false, false, false]) (v := (Value.int .i64 (k : Int))) rfl (by kernel_rfl) (by kernel_rfl) (by kernel_rfl) (by kernel_rfl) (fun _ _ _ h => h) (fun w hS => x_move rfl) ((Holds.ro_at H26_ 1 rfl)) ?_
            obtain ⟨x30_, hx31_, hm32_⟩ := elem_at times k (by first | omega | (simp only [List.length_take, List.length_map]; omega))
            refine A_take 7 (ls' := #[true, true, true, true, true, true, true, true, false, false, false, false, false]) (v := (Value.pointer (some ⟨(sb vb), so vb + k, none⟩))) rfl (by kernel_rfl) (by kernel_rfl) (by kernel_rfl) (by kernel_rfl) (fun _ _ _ h => h) (fun w hS => x_idxRS (v := vb) rfl hB rfl Try.underlying22 z2 (by omega) (by omega) (by omega : _ = k) (by rw [Nat.mul_one])) ((Holds.ro_at H26_ 1 rfl)) ?_
            refine A_take 8 (ls' := #[true, true, true, true, true, true, true, true, true, false, false, false, false]) (v := (Value.int .i64 x30_)) rfl (by kernel_rfl) (by kernel_rfl) (by kernel_rfl) (by kernel_rfl) (fun _ _ _ h => h) (fun w hS => x_load1 rfl Try.underlying2 rfl (RC.cell (RS.rc hB) hS (j := k) (u := (Value.int .i64 x30_)) ((map_at hx31_)))) ((Holds.ro_at H26_ 1 rfl)) ?_
            refine A_take 9 (ls' := #[true, true, true, true, true, true, true, true, true, true, false, false, false]) (v := (Value.agg #[(Value.int .i64 1), (Value.int .i64 x27_), (Value.int .i64 x30_)])) rfl (by kernel_rfl) (by kernel_rfl) (by kernel_rfl) (by kernel_rfl) (fun _ _ _ h => h) (fun w hS => by kernel_rfl) ((Holds.ro_at H26_ 1 rfl)) ?_
            refine A_ready (i := 10) (rs := []) (by kernel_rfl) ?_
            refine AllR.cons ?_ AllR.nil
            refine A_op (ls' := #[true, true, true, true, true, true, true, true, true, true, true, false, false]) rfl (by kernel_rfl) (T_new (obj := .cells #[(Value.int .i64 1), (Value.int .i64 x27_), (Value.int .i64 x30_)] 25) (f := fun b__ => .slice (some ⟨b__, 0, none⟩) 1 1) (A := fun b__ => cl b__ 25 [(Value.int .i64 1), (Value.int .i64 x27_), (Value.int .i64 x30_)]) (by kernel_rfl) (fun l h => h.alloc _ _) H26_ ?_)
            intro b33_ w34_ S36_ H35_
            replace H35_ : Holds w34_ (cl b33_ 25 [(Value.int .i64 1), (Value.int .i64 x27_), (Value.int .i64 x30_)] :: sl 25 3 vl (List.length (regs (List.take k (List.zip ids times)))) ((regs (List.take k (List.zip ids times))).flatMap QOp.cells) :: ro R :: F) := H35_
            have S37_ := Same.trans (Same.trans S20_ (Same.drew _)) S36_
            refine ⟨((Holds.ro_at H35_ 2 rfl)), ?_⟩
            refine A_ready (i := 11) (rs := []) (by kernel_rfl) ?_
            refine AllR.cons ?_ AllR.nil
            refine A_op (ls' := #[true, true, true, true, true, true, true, true, true, true, true, true, false]) rfl (by kernel_rfl) (T_append rfl rfl Try.underlying23 z25 rfl (by decide) H35_ 1 rfl (Holds.cl_src H35_ 0 rfl Try.underlying23 (by simp [Value.oneCell']) rfl) (by omega) ?_)
            intro v38_ w39_ S41_ H40_
            replace H40_ : Holds w39_ (cl b33_ 25 [(Value.int .i64 1), (Value.int .i64 x27_), (Value.int .i64 x30_)] :: sl 25 3 v38_ ((List.length (regs (List.take k (List.zip ids times)))) + 1) (((regs (List.take k (List.zip ids times))).flatMap QOp.cells) ++ [(Value.int .i64 1), (Value.int .i64 x27_), (Value.int .i64 x30_)]) :: ro R :: F) := H40_
            have S42_ := Same.trans S37_ S41_
            refine ⟨((Holds.ro_at H40_ 2 rfl)), ?_⟩
            refine A_take 12 (ls' := #[true, true, true, true, true, true, true, true, true, true, true, true, true]) (v := v38_) rfl (by kernel_rfl) (by kernel_rfl) (by kernel_rfl) (by kernel_rfl) (fun _ _ _ h => h) (fun w hS => x_assign rfl) ((Holds.ro_at H40_ 2 rfl)) ?_
            refine A_done (by kernel_rfl) ?_
            refine (X_blkN (X_then (hK24_ _ _ ?_)))
            clear hK24_
            refine C_reg ?_
            refine S_list (T_val (v := (Value.int .i64 ((k : Int) + 1))) (x_bin rfl rfl (ib_add (IntWalk.i64_in _ (by omega)))) ?_)
            refine S_list (T_val (v := (Value.int .i64 ((k : Int) + 1))) (x_move rfl) ?_)
            refine wpList_nil ?_
            refine (X_then ?_)
            have H43_ : Holds w39_ (cl b33_ 25 [(Value.int .i64 1), (Value.int .i64 x27_), (Value.int .i64 x30_)] :: sl 25 3 v38_ (List.length (regs (List.take (k + 1) (List.zip ids times)))) ((regs (List.take (k + 1) (List.zip ids times))).flatMap QOp.cells) :: ro R :: F) := cast2 (P := fun (c__ : List Value) (k__ : Nat) => Holds w39_ (cl b33_ 25 [(Value.int .i64 1), (Value.int .i64 x27_), (Value.int .i64 x30_)] :: sl 25 3 v38_ k__ c__ :: ro R :: F)) ((regs_take hx28_ hx31_) : ((regs (List.take k (List.zip ids times))).flatMap QOp.cells) ++ [(Value.int .i64 1), (Value.int .i64 x27_), (Value.int .i64 x30_)] = (regs (List.take (k + 1) (List.zip ids times))).flatMap QOp.cells) ((regs_take_len hx28_ hx31_) : (List.length (regs (List.take k (List.zip ids times)))) + 1 = (List.length (regs (List.take (k + 1) (List.zip ids times))))) H40_
            have H44_ : Holds w39_ (sl 25 3 v38_ (List.length (regs (List.take (k + 1) (List.zip ids times)))) ((regs (List.take (k + 1) (List.zip ids times))).flatMap QOp.cells) :: ro R :: F) := (Holds.erase (Holds.bring (Holds.bring H43_ 2 rfl) 2 rfl) 2)
            exact ⟨⟨k + 1, v38_⟩, ⟨_, congrArg (fun e => mkA 187 e []) (ch (ch (ch (ch (ch (ch rfl rfl) rfl) rfl) rfl) rfl) (congrArg (Value.int .i64) ((by first | rfl | omega | (simp; done) | (simp; omega)) : (k : Int) + 1 = ((k + 1 : Nat) : Int)))), H44_, S42_, (by first | assumption | omega | exact rfl)⟩, by first | omega | (dsimp only; omega) | (simp; omega)⟩
          · have c23_fp : ¬ ((k : Int) < (ids.length : Int)) := of_decide_eq_false c23_f
            refine C_exit (X_thenX (X_thenX (X_blkHit ?_)))
            refine (X_then (hK15_ _ _ ?_))
            clear hK15_
            refine C_seq (fun K45_ hK45_ => ?_)
            refine C_seq (fun K46_ hK46_ => ?_)
            refine C_reg ?_
            refine S_list (T_val (v := vl) (x_move rfl) ?_)
            have hzl : (List.zip ids times).length = ids.length := by rw [List.length_zip]; omega
            have hzt : List.take k (List.zip ids times) = (List.zip ids times) := List.take_of_length_le (by omega)
            have H47_ : Holds w18_ (sl 25 3 vl ids.length ((regs (List.zip ids times)).flatMap QOp.cells) :: ro R :: F) := cast2 (P := fun (c__ : List Value) (k__ : Nat) => Holds w18_ (sl 25 3 vl k__ c__ :: ro R :: F)) (by rw [hzt] : (regs (List.take k (List.zip ids times))).flatMap QOp.cells = (regs (List.zip ids times)).flatMap QOp.cells) (by rw [hzt]; simp [regs]; omega : (List.length (regs (List.take k (List.zip ids times)))) = ids.length) H19_
            have H51_ : Holds w18_ (ro R :: sl 25 3 vl ids.length ((regs (List.zip ids times)).flatMap QOp.cells) :: F) := (Holds.bring (Holds.bring H47_ 0 rfl) 1 rfl)
            refine S_list (T_call (al := [vl]) (pre := [sl 25 3 vl ids.length ((regs (List.zip ids times)).flatMap QOp.cells)]) (F := F) rfl rfl cb8 (Tri.lend (fun h0__ a0__ d0__ => qOps (un R h0__) vl (regs (List.zip ids times)) (RS.set_ (sl_RS a0__ (Sub.un_right d0__)) rfl (by simp [regs]; omega)) (by first | omega | (simp [regs]; omega)))) H51_ ?_)
            rintro v48_ p55_ w52_ ⟨_, rfl, ⟨b49_, rfl, rfl, he50_⟩⟩ S54_ H53_
            replace H53_ : Holds w52_ (ro R :: sl 25 3 vl ids.length ((regs (List.zip ids times)).flatMap QOp.cells) :: F) := H53_
            have S56_ := Same.trans S20_ S54_
            refine S_list (T_val (v := (Value.bool (!b49_))) (x_not rfl) ?_)
            refine wpList_nil ?_
            refine (X_then (hK46_ _ _ ?_))
            clear hK46_
            refine C_cond (b := !b49_) rfl (fun c57_t => ?_) (fun c57_f => ?_)
            · skip
              refine C_seq (fun K58_ hK58_ => ?_)
              refine C_reg ?_
              refine S_list (T_val (v := (Value.bool true)) (x_assign rfl) ?_)
              refine wpList_nil ?_
              refine (X_then (hK58_ _ _ ?_))
              clear hK58_
              refine C_ret (X_thenR ?_)
              refine R_any (v := (Value.bool true)) (run_results1 rfl rfl) ?_
              have H59_ : Holds w52_ (ro R :: F) := (Holds.erase (Holds.bring H53_ 0 rfl) 1)
              exact ⟨_, [], rfl, ⟨rfl, rfl⟩, S56_, H59_⟩
            · skip
              refine C_skip (X_then (hK45_ _ _ ?_))
              clear hK45_
              refine C_seq (fun K60_ hK60_ => ?_)
              refine C_reg ?_
              refine S_list (T_val (v := vl) (x_move rfl) ?_)
              refine S_list (T_val (v := (Value.int .i64 (ids.length : Int))) (x_lenSl rfl H53_ 1 rfl Try.underlying23) ?_)
              refine S_list (T_val (v := (Value.int .i64 (ids.length : Int))) (x_assign rfl) ?_)
              refine wpList_nil ?_
              refine (X_then (hK60_ _ _ ?_))
              clear hK60_
              refine C_seq (fun K61_ hK61_ => ?_)
              refine C_seq (fun K62_ hK62_ => ?_)
              refine C_reg ?_
              refine S_list (T_val (v := (Value.int .i64 (ids.length : Int))) (x_move rfl) ?_)
              refine S_list (T_val (v := (Value.int .i64 ((ids.length : Int) + 1))) (x_bin rfl rfl (ib_add (IntWalk.i64_in _ (by omega)))) ?_)
              refine S_list (T_val (v := (Value.int .i64 0)) (x_move rfl) ?_)
              refine wpList_nil ?_
              refine (X_then (hK62_ _ _ ?_))
              clear hK62_
              refine C_block ?_
              have H63_ : Holds w52_ (ro R :: sl 25 3 vl (ids.length + 0) ((regs (List.zip ids times) ++ List.replicate 0 pop3).flatMap QOp.cells) :: F) := cast2 (P := fun (c__ : List Value) (k__ : Nat) => Holds w52_ (ro R :: sl 25 3 vl k__ c__ :: F)) ((by first | rfl | (simp [QOp.cells, QAns.cells]; done)) : (regs (List.zip ids times)).flatMap QOp.cells = (regs (List.zip ids times) ++ List.replicate 0 pop3).flatMap QOp.cells) ((by first | rfl | omega | (simp; done) | (simp; omega)) : ids.length = (ids.length + 0)) H53_
              refine C_loop (γ := Nat × Value) (fun x a w1 => match x with | ⟨j0, vl⟩ => ∃ h : Env, a = mkA 187 (upd (upd (upd (upd (upd (upd (upd h 0 va) 1 vb) 4 (Value.bool false)) 5 vl) 7 (Value.int .i64 (ids.length : Int))) 63 (Value.int .i64 ((ids.length : Int) + 1))) 64 (Value.int .i64 (j0 : Int))) [] ∧ Holds w1 (ro R :: sl 25 3 vl (ids.length + j0) ((regs (List.zip ids times) ++ List.replicate j0 pop3).flatMap QOp.cells) :: F) ∧ Same w w1 ∧ (j0 ≤ ids.length + 1)) (fun x => match x with | ⟨j0, vl⟩ => ids.length + 1 - j0) (⟨0, vl⟩) ⟨_, congrArg (fun e => mkA 187 e []) (ch (ch (ch (ch (ch (ch (ch rfl rfl) rfl) rfl) rfl) rfl) rfl) (congrArg (Value.int .i64) ((by first | rfl | omega | (simp; done) | (simp; omega)) : 0 = (0 : Int)))), H63_, S56_, (by first | assumption | omega | exact rfl)⟩ ?_
              rintro ⟨j0, vl⟩ _ w64_ ⟨h, rfl, H65_, S66_, hj⟩
              refine C_seq (fun K67_ hK67_ => ?_)
              refine C_reg ?_
              refine S_list (T_val (v := (Value.bool (decide ((j0 : Int) < (ids.length : Int) + 1)))) (x_bin rfl rfl rfl) ?_)
              refine wpList_nil ?_
              refine (X_then (hK67_ _ _ ?_))
              clear hK67_
              refine C_seq (fun K68_ hK68_ => ?_)
              refine C_cond (b := decide ((j0 : Int) < (ids.length : Int) + 1)) rfl (fun c69_t => ?_) (fun c69_f => ?_)
              · have c69_tp : (j0 : Int) < (ids.length : Int) + 1 := of_decide_eq_true c69_t
                refine C_skip (X_then (hK68_ _ _ ?_))
                clear hK68_
                refine C_seq (fun K70_ hK70_ => ?_)
                refine C_block ?_
                refine C_reg ?_
                refine S_list (T_val (v := vl) (x_move rfl) ?_)
                refine S_list (T_val (v := (Value.agg #[(Value.int .i64 3), (Value.int .i64 0), (Value.int .i64 0)])) (by kernel_rfl) ?_)
                refine S_list (T_new (obj := .cells #[(Value.int .i64 3), (Value.int .i64 0), (Value.int .i64 0)] 25) (f := fun b__ => .slice (some ⟨b__, 0, none⟩) 1 1) (A := fun b__ => cl b__ 25 [(Value.int .i64 3), (Value.int .i64 0), (Value.int .i64 0)]) (by kernel_rfl) (fun l h => h.alloc _ _) H65_ ?_)
                intro b71_ w72_ S74_ H73_
                replace H73_ : Holds w72_ (cl b71_ 25 [(Value.int .i64 3), (Value.int .i64 0), (Value.int .i64 0)] :: ro R :: sl 25 3 vl (ids.length + j0) ((regs (List.zip ids times) ++ List.replicate j0 pop3).flatMap QOp.cells) :: F) := H73_
                have S75_ := Same.trans S66_ S74_
                refine S_list (T_append rfl rfl Try.underlying23 z25 rfl (by decide) H73_ 2 rfl (Holds.cl_src H73_ 0 rfl Try.underlying23 (by simp [Value.oneCell']) rfl) (by omega) ?_)
                intro v76_ w77_ S79_ H78_
                replace H78_ : Holds w77_ (cl b71_ 25 [(Value.int .i64 3), (Value.int .i64 0), (Value.int .i64 0)] :: ro R :: sl 25 3 v76_ ((ids.length + j0) + 1) (((regs (List.zip ids times) ++ List.replicate j0 pop3).flatMap QOp.cells) ++ [(Value.int .i64 3), (Value.int .i64 0), (Value.int .i64 0)]) :: F) := H78_
                have S80_ := Same.trans S75_ S79_
                refine S_list (T_val (v := v76_) (x_assign rfl) ?_)
                refine wpList_nil ?_
                refine (X_blkN (X_then (hK70_ _ _ ?_)))
                clear hK70_
                refine C_reg ?_
                refine S_list (T_val (v := (Value.int .i64 ((j0 : Int) + 1))) (x_bin rfl rfl (ib_add (IntWalk.i64_in _ (by omega)))) ?_)
                refine S_list (T_val (v := (Value.int .i64 ((j0 : Int) + 1))) (x_move rfl) ?_)
                refine wpList_nil ?_
                refine (X_then ?_)
                have H81_ : Holds w77_ (cl b71_ 25 [(Value.int .i64 3), (Value.int .i64 0), (Value.int .i64 0)] :: ro R :: sl 25 3 v76_ (ids.length + (j0 + 1)) ((regs (List.zip ids times) ++ List.replicate (j0 + 1) pop3).flatMap QOp.cells) :: F) := cast2 (P := fun (c__ : List Value) (k__ : Nat) => Holds w77_ (cl b71_ 25 [(Value.int .i64 3), (Value.int .i64 0), (Value.int .i64 0)] :: ro R :: sl 25 3 v76_ k__ c__ :: F)) (pops_take : ((regs (List.zip ids times) ++ List.replicate j0 pop3).flatMap QOp.cells) ++ [(Value.int .i64 3), (Value.int .i64 0), (Value.int .i64 0)] = (regs (List.zip ids times) ++ List.replicate (j0 + 1) pop3).flatMap QOp.cells) ((by first | rfl | omega | (simp; done) | (simp; omega)) : (ids.length + j0) + 1 = (ids.length + (j0 + 1))) H78_
                have H82_ : Holds w77_ (ro R :: sl 25 3 v76_ (ids.length + (j0 + 1)) ((regs (List.zip ids times) ++ List.replicate (j0 + 1) pop3).flatMap QOp.cells) :: F) := (Holds.erase (Holds.bring (Holds.bring H81_ 2 rfl) 2 rfl) 2)
                exact ⟨⟨j0 + 1, v76_⟩, ⟨_, congrArg (fun e => mkA 187 e []) (ch (ch (ch (ch (ch (ch (ch rfl rfl) rfl) rfl) rfl) rfl) rfl) (congrArg (Value.int .i64) ((by first | rfl | omega | (simp; done) | (simp; omega)) : (j0 : Int) + 1 = ((j0 + 1 : Nat) : Int)))), H82_, S80_, (by first | assumption | omega | exact rfl)⟩, by first | omega | (dsimp only; omega) | (simp; omega)⟩
              · have c69_fp : ¬ ((j0 : Int) < (ids.length : Int) + 1) := of_decide_eq_false c69_f
                refine C_exit (X_thenX (X_thenX (X_blkHit ?_)))
                refine (X_then (hK61_ _ _ ?_))
                clear hK61_
                refine C_seq (fun K83_ hK83_ => ?_)
                refine C_reg ?_
                refine S_list (T_val (v := vl) (x_move rfl) ?_)
                obtain ⟨R84_, hs85_, ⟨R86_, ha87_, hs88_⟩, H89_⟩ := Holds.gift H65_
                replace H89_ : Holds w64_ (ro R84_ :: F) := H89_
                have hr90_ : RS R84_ 3 vl (ids.length + j0) ((regs (List.zip ids times) ++ List.replicate j0 pop3).flatMap QOp.cells) := (sl_RS ha87_ (Sub.rfl' _)).mono hs88_
                refine S_list (T_call (al := [vl]) (pre := []) (F := F) rfl rfl cb9 (qQueue R84_ vl (regs (List.zip ids times) ++ List.replicate j0 pop3) (RS.set_ hr90_ rfl (by simp [regs]; omega)) (by simp [regs]; omega) (ops_ok (he50_ (by simp_all)).2)) H89_ ?_)
                rintro v91_ p98_ w95_ ⟨_, an92_, D93_, rfl, rfl, he94_⟩ S97_ H96_
                replace H96_ : Holds w95_ (ro R84_ :: sl 30 4 v91_ (List.length an92_) (an92_.flatMap QAns.cells) :: F) := H96_
                have S99_ := Same.trans S66_ S97_
                obtain ⟨P, hO⟩ := empties' hzl (by omega) he94_
                have hlen := hO.len
                have hfew := hO.few
                rw [hzl] at hlen hfew
                have hnn : ∀ p ∈ P, 0 ≤ p.2 := fun p hp => ((he50_ (by simp_all)).2 _ (List.mem_map_of_mem (lastT_mem (hO.last p hp)))).2.2.1
                refine S_list (T_val (v := v91_) (x_assign rfl) ?_)
                refine wpList_nil ?_
                refine (X_then (hK83_ _ _ ?_))
                clear hK83_
                refine C_seq (fun K100_ hK100_ => ?_)
                refine C_seq (fun K101_ hK101_ => ?_)
                refine C_reg ?_
                refine S_list (T_val (v := v91_) (x_move rfl) ?_)
                refine S_list (T_val (v := (Value.int .i64 ((List.length an92_) : Int))) (x_lenSl rfl H96_ 1 rfl Try.underlying27) ?_)
                refine S_list (T_val (v := vl) (x_move rfl) ?_)
                refine S_list (T_val (v := (Value.int .i64 ((ids.length + j0) : Int))) (x_lenRS rfl hr90_ Try.underlying23) ?_)
                refine S_list (T_val (v := (Value.bool (decide (((List.length an92_) : Int) ≠ ((ids.length + j0) : Int))))) (x_bin rfl rfl rfl) ?_)
                refine S_list (T_val (v := (Value.bool (decide (((List.length an92_) : Int) ≠ ((ids.length + j0) : Int))))) (x_move rfl) ?_)
                rcases Bool.eq_false_or_eq_true (decide (((List.length an92_) : Int) ≠ ((ids.length + j0) : Int))) with c102_t | c102_f
                · have c102_tp : ((List.length an92_) : Int) ≠ ((ids.length + j0) : Int) := of_decide_eq_true c102_t
                  omega
                · have c102_fp : ¬ (((List.length an92_) : Int) ≠ ((ids.length + j0) : Int)) := of_decide_eq_false c102_f
                  refine S_yes (j := 5) (dj := 78) (b := false) rfl rfl (congrArg Value.bool c102_f) (T_val (v := v91_) (x_move rfl) ?_)
                  refine S_yes (j := 5) (dj := 78) (b := false) rfl rfl (congrArg Value.bool c102_f) (T_val (v := vl) (x_move rfl) ?_)
                  refine S_yes (j := 5) (dj := 78) (b := false) rfl rfl (congrArg Value.bool c102_f) (T_val (v := (Value.int .i64 ((ids.length + j0) : Int))) (x_lenRS rfl hr90_ Try.underlying23) ?_)
                  refine S_yes (j := 5) (dj := 78) (b := false) rfl rfl (congrArg Value.bool c102_f) (T_val (v := (Value.int .i64 (((ids.length + j0) : Int) - 1))) (x_bin rfl rfl (ib_sub (IntWalk.i64_in _ (by omega)))) ?_)
                  have hr103_ := Holds.sl_RSw H96_ 1 rfl
                  refine S_yes (j := 5) (dj := 78) (b := false) rfl rfl (congrArg Value.bool c102_f) (T_val (v := (Value.pointer (some ⟨(sb v91_), so v91_ + (((((ids.length + j0) : Int) - 1).toNat) * 4 + 0), none⟩))) (x_idxSlR (v := v91_) rfl hr103_ rfl Try.underlying27 z30 (by omega) (by first | omega | (simp only [List.length_take, List.length_map]; omega)) (by omega : _ = (((ids.length + j0) : Int) - 1).toNat) rfl) ?_)
                  refine S_yes (j := 5) (dj := 78) (b := false) rfl rfl (congrArg Value.bool c102_f) (T_val (v := (Value.pointer (some ⟨(sb v91_), so v91_ + (((((ids.length + j0) : Int) - 1).toNat) * 4 + 0), none⟩))) (by kernel_rfl) ?_)
                  obtain ⟨x104_, hx105_, hm106_⟩ := elem_at an92_ ((((ids.length + j0) : Int) - 1).toNat) (by first | omega | (simp only [List.length_take, List.length_map]; omega))
                  refine S_yes (j := 5) (dj := 78) (b := false) rfl rfl (congrArg Value.bool c102_f) (T_val (v := (Value.bool x104_.ok)) (x_load1 rfl Try.underlying4 rfl ((Holds.slrd H96_ 1 rfl) _ _ (fm_cell QAns.len hx105_ (i := 0) rfl))) ?_)
                  refine S_list (T_pickF (v := (Value.bool x104_.ok)) (congrArg Value.bool c102_f) rfl ?_)
                  refine wpList_nil ?_
                  refine (X_then (hK101_ _ _ ?_))
                  clear hK101_
                  refine C_cond (b := x104_.ok) rfl (fun c107_t => ?_) (fun c107_f => ?_)
                  · skip
                    have hend := out_end hO hzl (by omega : _ = ids.length + ids.length) hx105_
                    rw [hend] at c107_t; cases c107_t
                  · skip
                    refine C_skip (X_then (hK100_ _ _ ?_))
                    clear hK100_
                    refine C_seq (fun K108_ hK108_ => ?_)
                    refine C_reg ?_
                    refine S_list (T_val (v := (Value.slice none 0 0)) (x_assign rfl) ?_)
                    refine wpList_nil ?_
                    refine (X_then (hK108_ _ _ ?_))
                    clear hK108_
                    refine C_seq (fun K109_ hK109_ => ?_)
                    refine C_reg ?_
                    refine S_list (T_val (v := (Value.int .i64 0)) (x_assign rfl) ?_)
                    refine wpList_nil ?_
                    refine (X_then (hK109_ _ _ ?_))
                    clear hK109_
                    refine C_seq (fun K110_ hK110_ => ?_)
                    refine C_seq (fun K111_ hK111_ => ?_)
                    refine C_reg ?_
                    refine S_list (T_val (v := (Value.int .i64 (ids.length : Int))) (x_move rfl) ?_)
                    refine S_list (T_val (v := (Value.int .i64 (ids.length : Int))) (x_assign rfl) ?_)
                    refine wpList_nil ?_
                    refine (X_then (hK111_ _ _ ?_))
                    clear hK111_
                    refine C_block ?_
                    have H112_ : Holds w95_ (sl 2 1 (Value.slice none 0 0) 0 ((List.take 0 (P.map Prod.fst)).map (Value.int .i64)) :: ro R84_ :: sl 30 4 v91_ (List.length an92_) (an92_.flatMap QAns.cells) :: F) := Holds.add_nil H96_ 2 1
                    refine C_loop (γ := Nat × Value × Int × Bool) (fun x a w1 => match x with | ⟨j, vs, was, t4_v⟩ => ∃ h : Env, a = mkA 187 (upd (upd (upd (upd (upd (upd (upd (upd h 0 va) 1 vb) 4 (Value.bool t4_v)) 5 vl) 8 v91_) 9 vs) 10 (Value.int .i64 was)) 11 (Value.int .i64 ((ids.length + j : Nat) : Int))) [] ∧ Holds w1 (sl 2 1 vs j ((List.take j (P.map Prod.fst)).map (Value.int .i64)) :: ro R84_ :: sl 30 4 v91_ (List.length an92_) (an92_.flatMap QAns.cells) :: F) ∧ Same w w1 ∧ (j ≤ P.length) ∧ (∀ p ∈ P.drop j, was ≤ p.2)) (fun x => match x with | ⟨j, vs, was, t4_v⟩ => P.length + 1 - j) (⟨0, (Value.slice none 0 0), 0, false⟩) ⟨_, congrArg (fun e => mkA 187 e []) (ch (ch (ch (ch (ch (ch (ch (ch rfl rfl) rfl) rfl) rfl) rfl) (rfl : (Value.slice none 0 0) = ((Value.slice none 0 0)))) rfl) (congrArg (Value.int .i64) ((by first | rfl | omega | (simp; done) | (simp; omega)) : (ids.length : Int) = ((ids.length + 0 : Nat) : Int)))), H112_, S99_, (Nat.zero_le _), (fun p hp => hnn p (List.mem_of_mem_drop hp))⟩ ?_
                    rintro ⟨j, vs, was, t4_v⟩ _ w113_ ⟨h, rfl, H114_, S115_, hj, hwas⟩
                    refine C_seq (fun K116_ hK116_ => ?_)
                    refine C_seq (fun K117_ hK117_ => ?_)
                    refine C_reg ?_
                    refine S_list (T_val (v := (Value.int .i64 ((ids.length + j : Nat) : Int))) (x_move rfl) ?_)
                    refine S_list (T_val (v := vl) (x_move rfl) ?_)
                    refine S_list (T_val (v := (Value.int .i64 ((ids.length + j0) : Int))) (x_lenRS rfl hr90_ Try.underlying23) ?_)
                    refine S_list (T_val (v := (Value.bool (decide (((ids.length + j : Nat) : Int) < ((ids.length + j0) : Int))))) (x_bin rfl rfl rfl) ?_)
                    refine S_list (T_val (v := (Value.bool (decide (((ids.length + j : Nat) : Int) < ((ids.length + j0) : Int))))) (x_move rfl) ?_)
                    rcases Bool.eq_false_or_eq_true (decide (((ids.length + j : Nat) : Int) < ((ids.length + j0) : Int))) with c118_t | c118_f
                    · have c118_tp : ((ids.length + j : Nat) : Int) < ((ids.length + j0) : Int) := of_decide_eq_true c118_t
                      refine S_yes (j := 4) (dj := 92) (b := true) rfl rfl (congrArg Value.bool c118_t) (T_val (v := v91_) (x_move rfl) ?_)
                      refine S_yes (j := 4) (dj := 92) (b := true) rfl rfl (congrArg Value.bool c118_t) (T_val (v := (Value.int .i64 ((ids.length + j : Nat) : Int))) (x_move rfl) ?_)
                      have hr119_ := Holds.sl_RSw H114_ 2 rfl
                      refine S_yes (j := 4) (dj := 92) (b := true) rfl rfl (congrArg Value.bool c118_t) (T_val (v := (Value.pointer (some ⟨(sb v91_), so v91_ + ((ids.length + j) * 4 + 0), none⟩))) (x_idxSlR (v := v91_) rfl hr119_ rfl Try.underlying27 z30 (by omega) (by first | omega | (simp only [List.length_take, List.length_map]; omega)) (by omega : _ = (ids.length + j)) rfl) ?_)
                      refine S_yes (j := 4) (dj := 92) (b := true) rfl rfl (congrArg Value.bool c118_t) (T_val (v := (Value.pointer (some ⟨(sb v91_), so v91_ + ((ids.length + j) * 4 + 0), none⟩))) (by kernel_rfl) ?_)
                      obtain ⟨x120_, hx121_, hm122_⟩ := elem_at an92_ (ids.length + j) (by first | omega | (simp only [List.length_take, List.length_map]; omega))
                      refine S_yes (j := 4) (dj := 92) (b := true) rfl rfl (congrArg Value.bool c118_t) (T_val (v := (Value.bool x120_.ok)) (x_load1 rfl Try.underlying4 rfl ((Holds.slrd H114_ 2 rfl) _ _ (fm_cell QAns.len hx121_ (i := 0) rfl))) ?_)
                      refine S_list (T_pickT (v := (Value.bool x120_.ok)) (congrArg Value.bool c118_t) rfl ?_)
                      refine wpList_nil ?_
                      refine (X_then (hK117_ _ _ ?_))
                      clear hK117_
                      refine C_cond (b := x120_.ok) rfl (fun c123_t => ?_) (fun c123_f => ?_)
                      · skip
                        obtain ⟨p, hp124_, hxi125_, hxa126_⟩ := out_yes hO hzl hx121_ c123_t
                        have hjl := (List.getElem?_eq_some_iff.1 hp124_).1
                        have hwp := hwas p (drop_mem hp124_)
                        have hlt_ := hO.last p (List.mem_of_getElem? hp124_)
                        refine C_skip (X_then (hK116_ _ _ ?_))
                        clear hK116_
                        refine C_seq (fun K127_ hK127_ => ?_)
                        refine C_block ?_
                        refine C_seq (fun K128_ hK128_ => ?_)
                        refine C_reg ?_
                        refine S_list (T_val (v := (Value.int .i64 (-1))) (x_assign rfl) ?_)
                        refine wpList_nil ?_
                        refine (X_then (hK128_ _ _ ?_))
                        clear hK128_
                        refine C_seq (fun K129_ hK129_ => ?_)
                        refine C_seq (fun K130_ hK130_ => ?_)
                        refine C_reg ?_
                        refine S_list (T_val (v := va) (x_move rfl) ?_)
                        refine S_list (T_val (v := (Value.int .i64 (ids.length : Int))) (x_lenRS rfl (RS.mono hA hs85_) Try.underlying22) ?_)
                        refine S_list (T_val (v := (Value.int .i64 0)) (x_move rfl) ?_)
                        refine wpList_nil ?_
                        refine (X_then (hK130_ _ _ ?_))
                        clear hK130_
                        refine C_block ?_
                        refine C_loop (γ := Nat × Int) (fun x a w1 => match x with | ⟨k1, last⟩ => ∃ h : Env, a = mkA 187 (upd (upd (upd (upd (upd (upd (upd (upd (upd (upd (upd h 0 va) 1 vb) 4 (Value.bool t4_v)) 5 vl) 8 v91_) 9 vs) 10 (Value.int .i64 was)) 11 (Value.int .i64 ((ids.length + j : Nat) : Int))) 12 (Value.int .i64 last)) 102 (Value.int .i64 (ids.length : Int))) 103 (Value.int .i64 (k1 : Int))) [] ∧ Holds w1 (sl 2 1 vs j ((List.take j (P.map Prod.fst)).map (Value.int .i64)) :: ro R84_ :: sl 30 4 v91_ (List.length an92_) (an92_.flatMap QAns.cells) :: F) ∧ Same w w1 ∧ (k1 ≤ ids.length) ∧ (last = (lastT (List.take k1 (List.zip ids times)) x120_.iD).getD (-1))) (fun x => match x with | ⟨k1, last⟩ => ids.length - k1) (⟨0, -1⟩) ⟨_, congrArg (fun e => mkA 187 e []) (ch (ch (ch (ch (ch (ch (ch (ch (ch (ch (ch rfl rfl) rfl) rfl) rfl) rfl) rfl) rfl) rfl) rfl) rfl) (congrArg (Value.int .i64) ((by first | rfl | omega | (simp; done) | (simp; omega)) : 0 = (0 : Int)))), H114_, S115_, (by first | assumption | omega | exact rfl), (rfl)⟩ ?_
                        rintro ⟨k1, last⟩ _ w131_ ⟨h, rfl, H132_, S133_, hk, hlast⟩
                        refine C_seq (fun K134_ hK134_ => ?_)
                        refine C_reg ?_
                        refine S_list (T_val (v := (Value.bool (decide ((k1 : Int) < (ids.length : Int))))) (x_bin rfl rfl rfl) ?_)
                        refine wpList_nil ?_
                        refine (X_then (hK134_ _ _ ?_))
                        clear hK134_
                        refine C_seq (fun K135_ hK135_ => ?_)
                        refine C_cond (b := decide ((k1 : Int) < (ids.length : Int))) rfl (fun c136_t => ?_) (fun c136_f => ?_)
                        · have c136_tp : (k1 : Int) < (ids.length : Int) := of_decide_eq_true c136_t
                          refine C_skip (X_then (hK135_ _ _ ?_))
                          clear hK135_
                          refine C_seq (fun K137_ hK137_ => ?_)
                          refine C_block ?_
                          refine C_seq (fun K138_ hK138_ => ?_)
                          refine C_reg ?_
                          refine S_list (T_val (v := (Value.int .i64 (k1 : Int))) (x_move rfl) ?_)
                          refine S_list (T_val (v := (Value.int .i64 (k1 : Int))) (x_assign rfl) ?_)
                          refine wpList_nil ?_
                          refine (X_then (hK138_ _ _ ?_))
                          clear hK138_
                          refine C_seq (fun K139_ hK139_ => ?_)
                          refine A_start (S := fun w => SlRd vs ((List.take j (P.map Prod.fst)).map (Value.int .i64)) w ∧ SlRd v91_ (an92_.flatMap QAns.cells) w ∧ Sub R84_ (hp w)) (N := 10) foll rfl rfl ?_
                          have H140_ : Holds w131_.drew (sl 2 1 vs j ((List.take j (P.map Prod.fst)).map (Value.int .i64)) :: ro R84_ :: sl 30 4 v91_ (List.length an92_) (an92_.flatMap QAns.cells) :: F) := H132_
                          refine A_take 0 (ls' := #[true, false, false, false, false, false, false, false, false, false]) (v := va) rfl (by kernel_rfl) (by kernel_rfl) (by kernel_rfl) (by kernel_rfl) (fun _ _ _ h => h) (fun w hS => x_move rfl) ⟨Holds.slrd H140_ 0 rfl, Holds.slrd H140_ 2 rfl, (Holds.ro_at H140_ 1 rfl)⟩ ?_
                          refine A_take 1 (ls' := #[true, true, false, false, false, false, false, false, false, false]) (v := (Value.int .i64 (k1 : Int))) rfl (by kernel_rfl) (by kernel_rfl) (by kernel_rfl) (by kernel_rfl) (fun _ _ _ h => h) (fun w hS => x_move rfl) ⟨Holds.slrd H140_ 0 rfl, Holds.slrd H140_ 2 rfl, (Holds.ro_at H140_ 1 rfl)⟩ ?_
                          obtain ⟨x141_, hx142_, hm143_⟩ := elem_at ids k1 (by first | omega | (simp only [List.length_take, List.length_map]; omega))
                          refine A_take 2 (ls' := #[true, true, true, false, false, false, false, false, false, false]) (v := (Value.pointer (some ⟨(sb va), so va + k1, none⟩))) rfl (by kernel_rfl) (by kernel_rfl) (by kernel_rfl) (by kernel_rfl) (fun _ _ _ h => h) (fun w hS => x_idxRS (v := va) rfl (RS.mono hA hs85_) rfl Try.underlying22 z2 (by omega) (by omega) (by omega : _ = k1) (by rw [Nat.mul_one])) ⟨Holds.slrd H140_ 0 rfl, Holds.slrd H140_ 2 rfl, (Holds.ro_at H140_ 1 rfl)⟩ ?_
                          refine A_take 3 (ls' := #[true, true, true, true, false, false, false, false, false, false]) (v := (Value.int .i64 x141_)) rfl (by kernel_rfl) (by kernel_rfl) (by kernel_rfl) (by kernel_rfl) (fun _ _ _ h => h) (fun w hS => x_load1 rfl Try.underlying2 rfl (RC.cell (RS.rc (RS.mono hA hs85_)) hS.2.2 (j := k1) (u := (Value.int .i64 x141_)) ((map_at hx142_)))) ⟨Holds.slrd H140_ 0 rfl, Holds.slrd H140_ 2 rfl, (Holds.ro_at H140_ 1 rfl)⟩ ?_
                          refine A_take 4 (ls' := #[true, true, true, true, true, false, false, false, false, false]) (v := v91_) rfl (by kernel_rfl) (by kernel_rfl) (by kernel_rfl) (by kernel_rfl) (fun _ _ _ h => h) (fun w hS => x_move rfl) ⟨Holds.slrd H140_ 0 rfl, Holds.slrd H140_ 2 rfl, (Holds.ro_at H140_ 1 rfl)⟩ ?_
                          refine A_take 5 (ls' := #[true, true, true, true, true, true, false, false, false, false]) (v := (Value.int .i64 ((ids.length + j : Nat) : Int))) rfl (by kernel_rfl) (by kernel_rfl) (by kernel_rfl) (by kernel_rfl) (fun _ _ _ h => h) (fun w hS => x_move rfl) ⟨Holds.slrd H140_ 0 rfl, Holds.slrd H140_ 2 rfl, (Holds.ro_at H140_ 1 rfl)⟩ ?_
                          refine A_take 6 (ls' := #[true, true, true, true, true, true, true, false, false, false]) (v := (Value.pointer (some ⟨(sb v91_), so v91_ + ((ids.length + j) * 4 + 0), none⟩))) rfl (by kernel_rfl) (by kernel_rfl) (by kernel_rfl) (by kernel_rfl) (fun _ _ _ h => h) (fun w hS => x_idxSlR (v := v91_) rfl hr119_ rfl Try.underlying27 z30 (by omega) (by first | omega | (simp only [List.length_take, List.length_map]; omega)) (by omega : _ = (ids.length + j)) rfl) ⟨Holds.slrd H140_ 0 rfl, Holds.slrd H140_ 2 rfl, (Holds.ro_at H140_ 1 rfl)⟩ ?_
                          refine A_take 7 (ls' := #[true, true, true, true, true, true, true, true, false, false]) (v := (Value.pointer (some ⟨(sb v91_), so v91_ + ((ids.length + j) * 4 + 1), none⟩))) rfl (by kernel_rfl) (by kernel_rfl) (by kernel_rfl) (by kernel_rfl) (fun _ _ _ h => h) (fun w hS => by kernel_rfl) ⟨Holds.slrd H140_ 0 rfl, Holds.slrd H140_ 2 rfl, (Holds.ro_at H140_ 1 rfl)⟩ ?_
                          refine A_take 8 (ls' := #[true, true, true, true, true, true, true, true, true, false]) (v := (Value.int .i64 x120_.iD)) rfl (by kernel_rfl) (by kernel_rfl) (by kernel_rfl) (by kernel_rfl) (fun _ _ _ h => h) (fun w hS => x_load1 rfl Try.underlying2 rfl (hS.2.1 _ _ (fm_cell QAns.len hx121_ (i := 1) rfl))) ⟨Holds.slrd H140_ 0 rfl, Holds.slrd H140_ 2 rfl, (Holds.ro_at H140_ 1 rfl)⟩ ?_
                          refine A_take 9 (ls' := #[true, true, true, true, true, true, true, true, true, true]) (v := (Value.bool (decide (x141_ = x120_.iD)))) rfl (by kernel_rfl) (by kernel_rfl) (by kernel_rfl) (by kernel_rfl) (fun _ _ _ h => h) (fun w hS => x_bin rfl rfl rfl) ⟨Holds.slrd H140_ 0 rfl, Holds.slrd H140_ 2 rfl, (Holds.ro_at H140_ 1 rfl)⟩ ?_
                          refine A_done (by kernel_rfl) ?_
                          refine (X_then (hK139_ _ _ ?_))
                          clear hK139_
                          refine C_cond (b := decide (x141_ = x120_.iD)) rfl (fun c144_t => ?_) (fun c144_f => ?_)
                          · have c144_tp : x141_ = x120_.iD := of_decide_eq_true c144_t
                            refine C_reg ?_
                            refine S_list (T_val (v := vb) (x_move rfl) ?_)
                            refine S_list (T_val (v := (Value.int .i64 (k1 : Int))) (x_move rfl) ?_)
                            obtain ⟨x145_, hx146_, hm147_⟩ := elem_at times k1 (by first | omega | (simp only [List.length_take, List.length_map]; omega))
                            refine S_list (T_val (v := (Value.pointer (some ⟨(sb vb), so vb + k1, none⟩))) (x_idxRS (v := vb) rfl (RS.mono hB hs85_) rfl Try.underlying22 z2 (by omega) (by omega) (by omega : _ = k1) (by rw [Nat.mul_one])) ?_)
                            refine S_list (T_val (v := (Value.int .i64 x145_)) (x_load1 rfl Try.underlying2 rfl (RC.cell (RS.rc (RS.mono hB hs85_)) (Holds.ro_at H140_ 1 rfl) (j := k1) (u := (Value.int .i64 x145_)) ((map_at hx146_)))) ?_)
                            refine S_list (T_val (v := (Value.int .i64 x145_)) (x_assign rfl) ?_)
                            refine wpList_nil ?_
                            refine (X_blkN (X_then (hK137_ _ _ ?_)))
                            clear hK137_
                            refine C_reg ?_
                            refine S_list (T_val (v := (Value.int .i64 ((k1 : Int) + 1))) (x_bin rfl rfl (ib_add (IntWalk.i64_in _ (by omega)))) ?_)
                            refine S_list (T_val (v := (Value.int .i64 ((k1 : Int) + 1))) (x_move rfl) ?_)
                            refine wpList_nil ?_
                            refine (X_then ?_)
                            exact ⟨⟨k1 + 1, x145_⟩, ⟨_, congrArg (fun e => mkA 187 e []) (ch (ch (ch (ch (ch (ch (ch (ch (ch (ch (ch rfl rfl) rfl) rfl) rfl) rfl) rfl) rfl) rfl) rfl) rfl) (congrArg (Value.int .i64) ((by first | rfl | omega | (simp; done) | (simp; omega)) : (k1 : Int) + 1 = ((k1 + 1 : Nat) : Int)))), H140_, (Same.trans S133_ (Same.drew _)), (by first | assumption | omega | exact rfl), (by rw [lastT_take hx142_ hx146_, if_pos c144_tp]; rfl)⟩, by first | omega | (dsimp only; omega) | (simp; omega)⟩
                          · have c144_fp : ¬ (x141_ = x120_.iD) := of_decide_eq_false c144_f
                            refine C_skip (X_blkN (X_then (hK137_ _ _ ?_)))
                            clear hK137_
                            refine C_reg ?_
                            refine S_list (T_val (v := (Value.int .i64 ((k1 : Int) + 1))) (x_bin rfl rfl (ib_add (IntWalk.i64_in _ (by omega)))) ?_)
                            refine S_list (T_val (v := (Value.int .i64 ((k1 : Int) + 1))) (x_move rfl) ?_)
                            refine wpList_nil ?_
                            refine (X_then ?_)
                            exact ⟨⟨k1 + 1, last⟩, ⟨_, congrArg (fun e => mkA 187 e []) (ch (ch (ch (ch (ch (ch (ch (ch (ch (ch (ch rfl rfl) rfl) rfl) rfl) rfl) rfl) rfl) rfl) rfl) rfl) (congrArg (Value.int .i64) ((by first | rfl | omega | (simp; done) | (simp; omega)) : (k1 : Int) + 1 = ((k1 + 1 : Nat) : Int)))), H140_, (Same.trans S133_ (Same.drew _)), (by first | assumption | omega | exact rfl), (by rw [lastT_take hx142_ (List.getElem?_eq_getElem (by omega : k1 < times.length)), if_neg c144_fp]; exact hlast)⟩, by first | omega | (dsimp only; omega) | (simp; omega)⟩
                        · have c136_fp : ¬ ((k1 : Int) < (ids.length : Int)) := of_decide_eq_false c136_f
                          have hkl : List.take k1 (List.zip ids times) = (List.zip ids times) := List.take_of_length_le (by omega)
                          refine C_exit (X_thenX (X_thenX (X_blkHit ?_)))
                          refine (X_then (hK129_ _ _ ?_))
                          clear hK129_
                          refine C_seq (fun K148_ hK148_ => ?_)
                          refine C_seq (fun K149_ hK149_ => ?_)
                          refine C_reg ?_
                          refine S_list (T_val (v := v91_) (x_move rfl) ?_)
                          refine S_list (T_val (v := (Value.int .i64 ((ids.length + j : Nat) : Int))) (x_move rfl) ?_)
                          refine S_list (T_val (v := (Value.pointer (some ⟨(sb v91_), so v91_ + ((ids.length + j) * 4 + 0), none⟩))) (x_idxSlR (v := v91_) rfl hr119_ rfl Try.underlying27 z30 (by omega) (by first | omega | (simp only [List.length_take, List.length_map]; omega)) (by omega : _ = (ids.length + j)) rfl) ?_)
                          refine S_list (T_val (v := (Value.pointer (some ⟨(sb v91_), so v91_ + ((ids.length + j) * 4 + 2), none⟩))) (by kernel_rfl) ?_)
                          refine S_list (T_val (v := (Value.int .i64 x120_.at_)) (x_load1 rfl Try.underlying2 rfl ((Holds.slrd H132_ 2 rfl) _ _ (fm_cell QAns.len hx121_ (i := 2) rfl))) ?_)
                          refine S_list (T_val (v := (Value.int .i64 was)) (x_move rfl) ?_)
                          refine S_list (T_val (v := (Value.bool (decide (x120_.at_ < was)))) (x_bin rfl rfl rfl) ?_)
                          refine S_list (T_val (v := (Value.bool (decide (x120_.at_ < was)))) (x_move rfl) ?_)
                          rcases Bool.eq_false_or_eq_true (decide (x120_.at_ < was)) with c150_t | c150_f
                          · have c150_tp : x120_.at_ < was := of_decide_eq_true c150_t
                            omega
                          · have c150_fp : ¬ (x120_.at_ < was) := of_decide_eq_false c150_f
                            refine S_yes (j := 7) (dj := 128) (b := false) rfl rfl (congrArg Value.bool c150_f) (T_val (v := (Value.int .i64 last)) (x_move rfl) ?_)
                            refine S_yes (j := 7) (dj := 128) (b := false) rfl rfl (congrArg Value.bool c150_f) (T_val (v := v91_) (x_move rfl) ?_)
                            refine S_yes (j := 7) (dj := 128) (b := false) rfl rfl (congrArg Value.bool c150_f) (T_val (v := (Value.int .i64 ((ids.length + j : Nat) : Int))) (x_move rfl) ?_)
                            refine S_yes (j := 7) (dj := 128) (b := false) rfl rfl (congrArg Value.bool c150_f) (T_val (v := (Value.pointer (some ⟨(sb v91_), so v91_ + ((ids.length + j) * 4 + 0), none⟩))) (x_idxSlR (v := v91_) rfl hr119_ rfl Try.underlying27 z30 (by omega) (by first | omega | (simp only [List.length_take, List.length_map]; omega)) (by omega : _ = (ids.length + j)) rfl) ?_)
                            refine S_yes (j := 7) (dj := 128) (b := false) rfl rfl (congrArg Value.bool c150_f) (T_val (v := (Value.pointer (some ⟨(sb v91_), so v91_ + ((ids.length + j) * 4 + 2), none⟩))) (by kernel_rfl) ?_)
                            refine S_yes (j := 7) (dj := 128) (b := false) rfl rfl (congrArg Value.bool c150_f) (T_val (v := (Value.int .i64 x120_.at_)) (x_load1 rfl Try.underlying2 rfl ((Holds.slrd H132_ 2 rfl) _ _ (fm_cell QAns.len hx121_ (i := 2) rfl))) ?_)
                            refine S_yes (j := 7) (dj := 128) (b := false) rfl rfl (congrArg Value.bool c150_f) (T_val (v := (Value.bool (decide (last ≠ x120_.at_)))) (x_bin rfl rfl rfl) ?_)
                            refine S_list (T_pickF (v := (Value.bool (decide (last ≠ x120_.at_)))) (congrArg Value.bool c150_f) rfl ?_)
                            refine wpList_nil ?_
                            refine (X_then (hK149_ _ _ ?_))
                            clear hK149_
                            refine C_cond (b := decide (last ≠ x120_.at_)) rfl (fun c151_t => ?_) (fun c151_f => ?_)
                            · have c151_tp : last ≠ x120_.at_ := of_decide_eq_true c151_t
                              rw [hkl, hxi125_, hlt_] at hlast; simp only [Option.getD_some] at hlast; omega
                            · have c151_fp : ¬ (last ≠ x120_.at_) := of_decide_eq_false c151_f
                              refine C_skip (X_then (hK148_ _ _ ?_))
                              clear hK148_
                              refine C_seq (fun K152_ hK152_ => ?_)
                              refine C_seq (fun K153_ hK153_ => ?_)
                              refine C_reg ?_
                              refine S_list (T_val (v := vs) (x_move rfl) ?_)
                              refine S_list (T_val (v := (Value.int .i64 (j : Int))) (x_lenSl rfl H132_ 0 rfl Try.underlying22) ?_)
                              refine S_list (T_val (v := (Value.int .i64 0)) (x_move rfl) ?_)
                              refine wpList_nil ?_
                              refine (X_then (hK153_ _ _ ?_))
                              clear hK153_
                              refine C_block ?_
                              refine C_loop (γ := Nat × Bool) (fun x a w1 => match x with | ⟨k2, t4_v⟩ => ∃ h : Env, a = mkA 187 (upd (upd (upd (upd (upd (upd (upd (upd (upd (upd (upd (upd (upd (upd h 0 va) 1 vb) 4 (Value.bool t4_v)) 5 vl) 8 v91_) 9 vs) 10 (Value.int .i64 was)) 11 (Value.int .i64 ((ids.length + j : Nat) : Int))) 12 (Value.int .i64 last)) 102 (Value.int .i64 (ids.length : Int))) 103 (Value.int .i64 (k1 : Int))) 137 vs) 138 (Value.int .i64 (j : Int))) 139 (Value.int .i64 (k2 : Int))) [] ∧ Holds w1 (sl 2 1 vs j ((List.take j (P.map Prod.fst)).map (Value.int .i64)) :: ro R84_ :: sl 30 4 v91_ (List.length an92_) (an92_.flatMap QAns.cells) :: F) ∧ Same w w1 ∧ (k2 ≤ j)) (fun x => match x with | ⟨k2, t4_v⟩ => j - k2) (⟨0, t4_v⟩) ⟨_, congrArg (fun e => mkA 187 e []) (ch (ch (ch (ch (ch (ch (ch (ch (ch (ch (ch (ch (ch (ch rfl rfl) rfl) rfl) rfl) rfl) rfl) rfl) rfl) rfl) rfl) rfl) rfl) rfl) (congrArg (Value.int .i64) ((by first | rfl | omega | (simp; done) | (simp; omega)) : 0 = (0 : Int)))), H132_, S133_, (by first | assumption | omega | exact rfl)⟩ ?_
                              rintro ⟨k2, t4_v⟩ _ w154_ ⟨h, rfl, H155_, S156_, hk⟩
                              refine C_seq (fun K157_ hK157_ => ?_)
                              refine C_reg ?_
                              refine S_list (T_val (v := (Value.bool (decide ((k2 : Int) < (j : Int))))) (x_bin rfl rfl rfl) ?_)
                              refine wpList_nil ?_
                              refine (X_then (hK157_ _ _ ?_))
                              clear hK157_
                              refine C_seq (fun K158_ hK158_ => ?_)
                              refine C_cond (b := decide ((k2 : Int) < (j : Int))) rfl (fun c159_t => ?_) (fun c159_f => ?_)
                              · have c159_tp : (k2 : Int) < (j : Int) := of_decide_eq_true c159_t
                                refine C_skip (X_then (hK158_ _ _ ?_))
                                clear hK158_
                                refine C_seq (fun K160_ hK160_ => ?_)
                                refine C_block ?_
                                refine C_seq (fun K161_ hK161_ => ?_)
                                refine C_reg ?_
                                have hr162_ := Holds.sl_RSw H155_ 0 rfl
                                refine S_list (T_val (v := (Value.pointer (some ⟨(sb vs), so vs + k2, none⟩))) (x_idxSlR (v := vs) rfl hr162_ rfl Try.underlying22 z2 (by omega) (by first | omega | (simp only [List.length_take, List.length_map]; omega)) (by omega : _ = k2) (by rw [Nat.mul_one])) ?_)
                                obtain ⟨x163_, hx164_, hm165_⟩ := elem_at (List.take j (P.map Prod.fst)) k2 (by first | omega | (simp only [List.length_take, List.length_map]; omega))
                                refine S_list (T_val (v := (Value.int .i64 x163_)) (x_load1 rfl Try.underlying2 rfl ((Holds.slrd H155_ 0 rfl) _ _ (map_at hx164_))) ?_)
                                refine S_list (T_val (v := (Value.int .i64 x163_)) (x_assign rfl) ?_)
                                refine wpList_nil ?_
                                refine (X_then (hK161_ _ _ ?_))
                                clear hK161_
                                refine C_seq (fun K166_ hK166_ => ?_)
                                refine C_reg ?_
                                refine S_list (T_val (v := (Value.int .i64 x163_)) (x_move rfl) ?_)
                                refine S_list (T_val (v := v91_) (x_move rfl) ?_)
                                refine S_list (T_val (v := (Value.int .i64 ((ids.length + j : Nat) : Int))) (x_move rfl) ?_)
                                refine S_list (T_val (v := (Value.pointer (some ⟨(sb v91_), so v91_ + ((ids.length + j) * 4 + 0), none⟩))) (x_idxSlR (v := v91_) rfl hr119_ rfl Try.underlying27 z30 (by omega) (by first | omega | (simp only [List.length_take, List.length_map]; omega)) (by omega : _ = (ids.length + j)) rfl) ?_)
                                refine S_list (T_val (v := (Value.pointer (some ⟨(sb v91_), so v91_ + ((ids.length + j) * 4 + 1), none⟩))) (by kernel_rfl) ?_)
                                refine S_list (T_val (v := (Value.int .i64 x120_.iD)) (x_load1 rfl Try.underlying2 rfl ((Holds.slrd H155_ 2 rfl) _ _ (fm_cell QAns.len hx121_ (i := 1) rfl))) ?_)
                                refine S_list (T_val (v := (Value.bool (decide (x163_ = x120_.iD)))) (x_bin rfl rfl rfl) ?_)
                                refine wpList_nil ?_
                                refine (X_then (hK166_ _ _ ?_))
                                clear hK166_
                                refine C_cond (b := decide (x163_ = x120_.iD)) rfl (fun c167_t => ?_) (fun c167_f => ?_)
                                · have c167_tp : x163_ = x120_.iD := of_decide_eq_true c167_t
                                  exact absurd (c167_tp.trans hxi125_) (seen_ne hO.nodup hp124_ hx164_)
                                · have c167_fp : ¬ (x163_ = x120_.iD) := of_decide_eq_false c167_f
                                  refine C_skip (X_blkN (X_then (hK160_ _ _ ?_)))
                                  clear hK160_
                                  refine C_reg ?_
                                  refine S_list (T_val (v := (Value.int .i64 ((k2 : Int) + 1))) (x_bin rfl rfl (ib_add (IntWalk.i64_in _ (by omega)))) ?_)
                                  refine S_list (T_val (v := (Value.int .i64 ((k2 : Int) + 1))) (x_move rfl) ?_)
                                  refine wpList_nil ?_
                                  refine (X_then ?_)
                                  exact ⟨⟨k2 + 1, t4_v⟩, ⟨_, congrArg (fun e => mkA 187 e []) (ch (ch (ch (ch (ch (ch (ch (ch (ch (ch (ch (ch (ch (ch rfl rfl) rfl) rfl) rfl) rfl) rfl) rfl) rfl) rfl) rfl) rfl) rfl) rfl) (congrArg (Value.int .i64) ((by first | rfl | omega | (simp; done) | (simp; omega)) : (k2 : Int) + 1 = ((k2 + 1 : Nat) : Int)))), H155_, S156_, (by first | assumption | omega | exact rfl)⟩, by first | omega | (dsimp only; omega) | (simp; omega)⟩
                              · have c159_fp : ¬ ((k2 : Int) < (j : Int)) := of_decide_eq_false c159_f
                                refine C_exit (X_thenX (X_thenX (X_blkHit ?_)))
                                refine (X_then (hK152_ _ _ ?_))
                                clear hK152_
                                refine C_seq (fun K168_ hK168_ => ?_)
                                refine C_reg ?_
                                refine S_list (T_val (v := vs) (x_move rfl) ?_)
                                refine S_list (T_val (v := v91_) (x_move rfl) ?_)
                                refine S_list (T_val (v := (Value.int .i64 ((ids.length + j : Nat) : Int))) (x_move rfl) ?_)
                                refine S_list (T_val (v := (Value.pointer (some ⟨(sb v91_), so v91_ + ((ids.length + j) * 4 + 0), none⟩))) (x_idxSlR (v := v91_) rfl hr119_ rfl Try.underlying27 z30 (by omega) (by first | omega | (simp only [List.length_take, List.length_map]; omega)) (by omega : _ = (ids.length + j)) rfl) ?_)
                                refine S_list (T_val (v := (Value.pointer (some ⟨(sb v91_), so v91_ + ((ids.length + j) * 4 + 1), none⟩))) (by kernel_rfl) ?_)
                                refine S_list (T_val (v := (Value.int .i64 x120_.iD)) (x_load1 rfl Try.underlying2 rfl ((Holds.slrd H155_ 2 rfl) _ _ (fm_cell QAns.len hx121_ (i := 1) rfl))) ?_)
                                refine S_list (T_new (obj := .cells #[(Value.int .i64 x120_.iD)] 2) (f := fun b__ => .slice (some ⟨b__, 0, none⟩) 1 1) (A := fun b__ => cl b__ 2 [(Value.int .i64 x120_.iD)]) (by kernel_rfl) (fun l h => h.alloc _ _) H155_ ?_)
                                intro b169_ w170_ S172_ H171_
                                replace H171_ : Holds w170_ (cl b169_ 2 [(Value.int .i64 x120_.iD)] :: sl 2 1 vs j ((List.take j (P.map Prod.fst)).map (Value.int .i64)) :: ro R84_ :: sl 30 4 v91_ (List.length an92_) (an92_.flatMap QAns.cells) :: F) := H171_
                                have S173_ := Same.trans S156_ S172_
                                refine S_list (T_append rfl rfl Try.underlying22 z2 rfl (by decide) H171_ 1 rfl (Holds.cl_src H171_ 0 rfl Try.underlying22 (by simp [Value.oneCell']) rfl) (by omega) ?_)
                                intro v174_ w175_ S177_ H176_
                                replace H176_ : Holds w175_ (cl b169_ 2 [(Value.int .i64 x120_.iD)] :: sl 2 1 v174_ (j + 1) (((List.take j (P.map Prod.fst)).map (Value.int .i64)) ++ [(Value.int .i64 x120_.iD)]) :: ro R84_ :: sl 30 4 v91_ (List.length an92_) (an92_.flatMap QAns.cells) :: F) := H176_
                                have S178_ := Same.trans S173_ S177_
                                refine S_list (T_val (v := v174_) (x_assign rfl) ?_)
                                refine wpList_nil ?_
                                refine (X_then (hK168_ _ _ ?_))
                                clear hK168_
                                refine C_reg ?_
                                refine S_list (T_val (v := v91_) (x_move rfl) ?_)
                                refine S_list (T_val (v := (Value.int .i64 ((ids.length + j : Nat) : Int))) (x_move rfl) ?_)
                                refine S_list (T_val (v := (Value.pointer (some ⟨(sb v91_), so v91_ + ((ids.length + j) * 4 + 0), none⟩))) (x_idxSlR (v := v91_) rfl hr119_ rfl Try.underlying27 z30 (by omega) (by first | omega | (simp only [List.length_take, List.length_map]; omega)) (by omega : _ = (ids.length + j)) rfl) ?_)
                                refine S_list (T_val (v := (Value.pointer (some ⟨(sb v91_), so v91_ + ((ids.length + j) * 4 + 2), none⟩))) (by kernel_rfl) ?_)
                                refine S_list (T_val (v := (Value.int .i64 x120_.at_)) (x_load1 rfl Try.underlying2 rfl ((Holds.slrd H176_ 3 rfl) _ _ (fm_cell QAns.len hx121_ (i := 2) rfl))) ?_)
                                refine S_list (T_val (v := (Value.int .i64 x120_.at_)) (x_assign rfl) ?_)
                                refine wpList_nil ?_
                                refine (X_blkN (X_then (hK127_ _ _ ?_)))
                                clear hK127_
                                refine C_reg ?_
                                refine S_list (T_val (v := (Value.int .i64 ((ids.length + j : Nat) : Int))) (x_move rfl) ?_)
                                refine S_list (T_val (v := (Value.int .i64 (((ids.length + j : Nat) : Int) + 1))) (x_bin rfl rfl (ib_add (IntWalk.i64_in _ (by omega)))) ?_)
                                refine S_list (T_val (v := (Value.int .i64 (((ids.length + j : Nat) : Int) + 1))) (x_assign rfl) ?_)
                                refine wpList_nil ?_
                                refine (X_then ?_)
                                have H179_ : Holds w175_ (cl b169_ 2 [(Value.int .i64 x120_.iD)] :: sl 2 1 v174_ (j + 1) ((List.take (j + 1) (P.map Prod.fst)).map (Value.int .i64)) :: ro R84_ :: sl 30 4 v91_ (List.length an92_) (an92_.flatMap QAns.cells) :: F) := cast2 (P := fun (c__ : List Value) (k__ : Nat) => Holds w175_ (cl b169_ 2 [(Value.int .i64 x120_.iD)] :: sl 2 1 v174_ k__ c__ :: ro R84_ :: sl 30 4 v91_ (List.length an92_) (an92_.flatMap QAns.cells) :: F)) ((by rw [hxi125_]; exact seen_take hp124_) : ((List.take j (P.map Prod.fst)).map (Value.int .i64)) ++ [(Value.int .i64 x120_.iD)] = (List.take (j + 1) (P.map Prod.fst)).map (Value.int .i64)) (rfl : j + 1 = (j + 1)) H176_
                                have H180_ : Holds w175_ (sl 2 1 v174_ (j + 1) ((List.take (j + 1) (P.map Prod.fst)).map (Value.int .i64)) :: ro R84_ :: sl 30 4 v91_ (List.length an92_) (an92_.flatMap QAns.cells) :: F) := (Holds.erase (Holds.bring (Holds.bring (Holds.bring H179_ 3 rfl) 3 rfl) 3 rfl) 3)
                                exact ⟨⟨j + 1, v174_, x120_.at_, t4_v⟩, ⟨_, congrArg (fun e => mkA 187 e []) (ch (ch (ch (ch (ch (ch (ch (ch rfl rfl) rfl) rfl) rfl) rfl) rfl) rfl) (congrArg (Value.int .i64) ((by first | rfl | omega | (simp; done) | (simp; omega)) : ((ids.length + j : Nat) : Int) + 1 = ((ids.length + (j + 1) : Nat) : Int)))), H180_, S178_, (by omega), (by rw [hxa126_]; exact was_ok hO.sorted hp124_)⟩, by first | omega | (dsimp only; omega) | (simp; omega)⟩
                      · skip
                        have hno := out_no hO hzl hx121_ c123_f
                        refine C_exit (X_thenX (X_thenX (X_blkHit ?_)))
                        refine (X_then (hK110_ _ _ ?_))
                        clear hK110_
                        refine C_seq (fun K181_ hK181_ => ?_)
                        refine C_seq (fun K182_ hK182_ => ?_)
                        refine C_reg ?_
                        refine S_list (T_val (v := va) (x_move rfl) ?_)
                        refine S_list (T_val (v := (Value.int .i64 (ids.length : Int))) (x_lenRS rfl (RS.mono hA hs85_) Try.underlying22) ?_)
                        refine S_list (T_val (v := (Value.int .i64 0)) (x_move rfl) ?_)
                        refine wpList_nil ?_
                        refine (X_then (hK182_ _ _ ?_))
                        clear hK182_
                        refine C_block ?_
                        refine C_loop (γ := Nat × Bool) (fun x a w1 => match x with | ⟨k3, t4_v⟩ => ∃ h : Env, a = mkA 187 (upd (upd (upd (upd (upd h 4 (Value.bool t4_v)) 9 vs) 164 va) 165 (Value.int .i64 (ids.length : Int))) 166 (Value.int .i64 (k3 : Int))) [] ∧ Holds w1 (sl 2 1 vs j ((List.take j (P.map Prod.fst)).map (Value.int .i64)) :: ro R84_ :: sl 30 4 v91_ (List.length an92_) (an92_.flatMap QAns.cells) :: F) ∧ Same w w1 ∧ (k3 ≤ ids.length)) (fun x => match x with | ⟨k3, t4_v⟩ => ids.length - k3) (⟨0, t4_v⟩) ⟨_, congrArg (fun e => mkA 187 e []) (ch (ch (ch (ch (ch rfl rfl) rfl) rfl) rfl) (congrArg (Value.int .i64) ((by first | rfl | omega | (simp; done) | (simp; omega)) : 0 = (0 : Int)))), H114_, S115_, (by first | assumption | omega | exact rfl)⟩ ?_
                        rintro ⟨k3, t4_v⟩ _ w183_ ⟨h, rfl, H184_, S185_, hk⟩
                        refine C_seq (fun K186_ hK186_ => ?_)
                        refine C_reg ?_
                        refine S_list (T_val (v := (Value.bool (decide ((k3 : Int) < (ids.length : Int))))) (x_bin rfl rfl rfl) ?_)
                        refine wpList_nil ?_
                        refine (X_then (hK186_ _ _ ?_))
                        clear hK186_
                        refine C_seq (fun K187_ hK187_ => ?_)
                        refine C_cond (b := decide ((k3 : Int) < (ids.length : Int))) rfl (fun c188_t => ?_) (fun c188_f => ?_)
                        · have c188_tp : (k3 : Int) < (ids.length : Int) := of_decide_eq_true c188_t
                          refine C_skip (X_then (hK187_ _ _ ?_))
                          clear hK187_
                          refine C_seq (fun K189_ hK189_ => ?_)
                          refine C_block ?_
                          refine C_seq (fun K190_ hK190_ => ?_)
                          refine C_reg ?_
                          obtain ⟨x191_, hx192_, hm193_⟩ := elem_at ids k3 (by first | omega | (simp only [List.length_take, List.length_map]; omega))
                          refine S_list (T_val (v := (Value.pointer (some ⟨(sb va), so va + k3, none⟩))) (x_idxRS (v := va) rfl (RS.mono hA hs85_) rfl Try.underlying22 z2 (by omega) (by omega) (by omega : _ = k3) (by rw [Nat.mul_one])) ?_)
                          refine S_list (T_val (v := (Value.int .i64 x191_)) (x_load1 rfl Try.underlying2 rfl (RC.cell (RS.rc (RS.mono hA hs85_)) (Holds.ro_at H184_ 1 rfl) (j := k3) (u := (Value.int .i64 x191_)) ((map_at hx192_)))) ?_)
                          refine S_list (T_val (v := (Value.int .i64 x191_)) (x_assign rfl) ?_)
                          refine wpList_nil ?_
                          refine (X_then (hK190_ _ _ ?_))
                          clear hK190_
                          refine C_seq (fun K194_ hK194_ => ?_)
                          refine C_reg ?_
                          refine S_list (T_val (v := (Value.bool false)) (x_assign rfl) ?_)
                          refine wpList_nil ?_
                          refine (X_then (hK194_ _ _ ?_))
                          clear hK194_
                          refine C_seq (fun K195_ hK195_ => ?_)
                          refine C_seq (fun K196_ hK196_ => ?_)
                          refine C_reg ?_
                          refine S_list (T_val (v := vs) (x_move rfl) ?_)
                          refine S_list (T_val (v := (Value.int .i64 (j : Int))) (x_lenSl rfl H184_ 0 rfl Try.underlying22) ?_)
                          refine S_list (T_val (v := (Value.int .i64 0)) (x_move rfl) ?_)
                          refine wpList_nil ?_
                          refine (X_then (hK196_ _ _ ?_))
                          clear hK196_
                          refine C_block ?_
                          refine C_loop (γ := Nat × Bool) (fun x a w1 => match x with | ⟨i, is_⟩ => ∃ h : Env, a = mkA 187 (upd (upd (upd (upd (upd (upd (upd (upd (upd (upd h 4 (Value.bool t4_v)) 9 vs) 17 (Value.int .i64 x191_)) 18 (Value.bool is_)) 164 va) 165 (Value.int .i64 (ids.length : Int))) 166 (Value.int .i64 (k3 : Int))) 170 vs) 171 (Value.int .i64 (j : Int))) 172 (Value.int .i64 (i : Int))) [] ∧ Holds w1 (sl 2 1 vs j ((List.take j (P.map Prod.fst)).map (Value.int .i64)) :: ro R84_ :: sl 30 4 v91_ (List.length an92_) (an92_.flatMap QAns.cells) :: F) ∧ Same w w1 ∧ (i ≤ j) ∧ (is_ = false → ∀ y ∈ List.take i (List.take j (P.map Prod.fst)), x191_ ≠ y)) (fun x => match x with | ⟨i, is_⟩ => j - i) (⟨0, false⟩) ⟨_, congrArg (fun e => mkA 187 e []) (ch (ch (ch (ch (ch (ch (ch (ch (ch (ch rfl rfl) rfl) rfl) rfl) rfl) rfl) rfl) rfl) rfl) (congrArg (Value.int .i64) ((by first | rfl | omega | (simp; done) | (simp; omega)) : 0 = (0 : Int)))), H184_, S185_, (by first | assumption | omega | exact rfl), (fun _ y hy => by simp at hy)⟩ ?_
                          rintro ⟨i, is_⟩ _ w197_ ⟨h, rfl, H198_, S199_, hi, hno2⟩
                          refine C_seq (fun K200_ hK200_ => ?_)
                          refine C_reg ?_
                          refine S_list (T_val (v := (Value.bool (decide ((i : Int) < (j : Int))))) (x_bin rfl rfl rfl) ?_)
                          refine wpList_nil ?_
                          refine (X_then (hK200_ _ _ ?_))
                          clear hK200_
                          refine C_seq (fun K201_ hK201_ => ?_)
                          refine C_cond (b := decide ((i : Int) < (j : Int))) rfl (fun c202_t => ?_) (fun c202_f => ?_)
                          · have c202_tp : (i : Int) < (j : Int) := of_decide_eq_true c202_t
                            refine C_skip (X_then (hK201_ _ _ ?_))
                            clear hK201_
                            refine C_seq (fun K203_ hK203_ => ?_)
                            refine C_block ?_
                            refine C_seq (fun K204_ hK204_ => ?_)
                            refine C_reg ?_
                            have hr205_ := Holds.sl_RSw H198_ 0 rfl
                            refine S_list (T_val (v := (Value.pointer (some ⟨(sb vs), so vs + i, none⟩))) (x_idxSlR (v := vs) rfl hr205_ rfl Try.underlying22 z2 (by omega) (by first | omega | (simp only [List.length_take, List.length_map]; omega)) (by omega : _ = i) (by rw [Nat.mul_one])) ?_)
                            obtain ⟨x206_, hx207_, hm208_⟩ := elem_at (List.take j (P.map Prod.fst)) i (by first | omega | (simp only [List.length_take, List.length_map]; omega))
                            refine S_list (T_val (v := (Value.int .i64 x206_)) (x_load1 rfl Try.underlying2 rfl ((Holds.slrd H198_ 0 rfl) _ _ (map_at hx207_))) ?_)
                            refine S_list (T_val (v := (Value.int .i64 x206_)) (x_assign rfl) ?_)
                            refine wpList_nil ?_
                            refine (X_then (hK204_ _ _ ?_))
                            clear hK204_
                            refine C_reg ?_
                            refine S_list (T_val (v := (Value.bool is_)) (x_move rfl) ?_)
                            refine S_list (T_val (v := (Value.bool is_)) (x_move rfl) ?_)
                            rcases Bool.eq_false_or_eq_true (is_) with c209_t | c209_f
                            · skip
                              refine S_no (j := 1) (dj := 177) (b := true) rfl rfl (congrArg Value.bool c209_t) (by decide) ?_
                              refine S_no (j := 1) (dj := 177) (b := true) rfl rfl (congrArg Value.bool c209_t) (by decide) ?_
                              refine S_no (j := 1) (dj := 177) (b := true) rfl rfl (congrArg Value.bool c209_t) (by decide) ?_
                              refine S_list (T_pickT (v := (Value.bool true)) (congrArg Value.bool c209_t) rfl ?_)
                              refine S_list (T_val (v := (Value.bool true)) (x_assign rfl) ?_)
                              refine wpList_nil ?_
                              refine (X_blkN (X_then (hK203_ _ _ ?_)))
                              clear hK203_
                              refine C_reg ?_
                              refine S_list (T_val (v := (Value.int .i64 ((i : Int) + 1))) (x_bin rfl rfl (ib_add (IntWalk.i64_in _ (by omega)))) ?_)
                              refine S_list (T_val (v := (Value.int .i64 ((i : Int) + 1))) (x_move rfl) ?_)
                              refine wpList_nil ?_
                              refine (X_then ?_)
                              exact ⟨⟨i + 1, true⟩, ⟨_, congrArg (fun e => mkA 187 e []) (ch (ch (ch (ch (ch (ch (ch (ch (ch (ch rfl rfl) rfl) rfl) rfl) rfl) rfl) rfl) rfl) rfl) (congrArg (Value.int .i64) ((by first | rfl | omega | (simp; done) | (simp; omega)) : (i : Int) + 1 = ((i + 1 : Nat) : Int)))), H198_, S199_, (by first | assumption | omega | exact rfl), (fun h => by cases h)⟩, by first | omega | (dsimp only; omega) | (simp; omega)⟩
                            · skip
                              refine S_yes (j := 1) (dj := 177) (b := false) rfl rfl (congrArg Value.bool c209_f) (T_val (v := (Value.int .i64 x191_)) (x_move rfl) ?_)
                              refine S_yes (j := 1) (dj := 177) (b := false) rfl rfl (congrArg Value.bool c209_f) (T_val (v := (Value.int .i64 x206_)) (x_move rfl) ?_)
                              refine S_yes (j := 1) (dj := 177) (b := false) rfl rfl (congrArg Value.bool c209_f) (T_val (v := (Value.bool (decide (x191_ = x206_)))) (x_bin rfl rfl rfl) ?_)
                              refine S_list (T_pickF (v := (Value.bool (decide (x191_ = x206_)))) (congrArg Value.bool c209_f) rfl ?_)
                              refine S_list (T_val (v := (Value.bool (decide (x191_ = x206_)))) (x_assign rfl) ?_)
                              refine wpList_nil ?_
                              refine (X_blkN (X_then (hK203_ _ _ ?_)))
                              clear hK203_
                              refine C_reg ?_
                              refine S_list (T_val (v := (Value.int .i64 ((i : Int) + 1))) (x_bin rfl rfl (ib_add (IntWalk.i64_in _ (by omega)))) ?_)
                              refine S_list (T_val (v := (Value.int .i64 ((i : Int) + 1))) (x_move rfl) ?_)
                              refine wpList_nil ?_
                              refine (X_then ?_)
                              exact ⟨⟨i + 1, decide (x191_ = x206_)⟩, ⟨_, congrArg (fun e => mkA 187 e []) (ch (ch (ch (ch (ch (ch (ch (ch (ch (ch rfl rfl) rfl) rfl) rfl) rfl) rfl) rfl) rfl) rfl) (congrArg (Value.int .i64) ((by first | rfl | omega | (simp; done) | (simp; omega)) : (i : Int) + 1 = ((i + 1 : Nat) : Int)))), H198_, S199_, (by first | assumption | omega | exact rfl), (fun h => mem_take_succ hx207_ (hno2 (by simp_all)) (by simp_all))⟩, by first | omega | (dsimp only; omega) | (simp; omega)⟩
                          · have c202_fp : ¬ ((i : Int) < (j : Int)) := of_decide_eq_false c202_f
                            refine C_exit (X_thenX (X_thenX (X_blkHit ?_)))
                            refine (X_then (hK195_ _ _ ?_))
                            clear hK195_
                            refine C_seq (fun K210_ hK210_ => ?_)
                            refine C_reg ?_
                            refine S_list (T_val (v := (Value.bool is_)) (x_move rfl) ?_)
                            refine S_list (T_val (v := (Value.bool (!is_))) (x_not rfl) ?_)
                            refine wpList_nil ?_
                            refine (X_then (hK210_ _ _ ?_))
                            clear hK210_
                            refine C_cond (b := !is_) rfl (fun c211_t => ?_) (fun c211_f => ?_)
                            · skip
                              exact (has_out hO (by omega) hm193_ hno (fun y hy => hno2 (by simp_all) y (by rw [List.take_of_length_le (by simp; omega)]; exact hy))).elim
                            · skip
                              refine C_skip (X_blkN (X_then (hK189_ _ _ ?_)))
                              clear hK189_
                              refine C_reg ?_
                              refine S_list (T_val (v := (Value.int .i64 ((k3 : Int) + 1))) (x_bin rfl rfl (ib_add (IntWalk.i64_in _ (by omega)))) ?_)
                              refine S_list (T_val (v := (Value.int .i64 ((k3 : Int) + 1))) (x_move rfl) ?_)
                              refine wpList_nil ?_
                              refine (X_then ?_)
                              exact ⟨⟨k3 + 1, t4_v⟩, ⟨_, congrArg (fun e => mkA 187 e []) (ch (ch (ch (ch (ch rfl rfl) rfl) rfl) rfl) (congrArg (Value.int .i64) ((by first | rfl | omega | (simp; done) | (simp; omega)) : (k3 : Int) + 1 = ((k3 + 1 : Nat) : Int)))), H198_, S199_, (by first | assumption | omega | exact rfl)⟩, by first | omega | (dsimp only; omega) | (simp; omega)⟩
                        · have c188_fp : ¬ ((k3 : Int) < (ids.length : Int)) := of_decide_eq_false c188_f
                          refine C_exit (X_thenX (X_thenX (X_blkHit ?_)))
                          refine (X_then (hK181_ _ _ ?_))
                          clear hK181_
                          refine C_seq (fun K212_ hK212_ => ?_)
                          refine C_reg ?_
                          have H214_ : Holds w183_ (ro R84_ :: sl 2 1 vs j ((List.take j (P.map Prod.fst)).map (Value.int .i64)) :: sl 30 4 v91_ (List.length an92_) (an92_.flatMap QAns.cells) :: F) := (Holds.bring H184_ 1 rfl)
                          refine S_list (T_call (al := []) (pre := []) (F := sl 2 1 vs j ((List.take j (P.map Prod.fst)).map (Value.int .i64)) :: sl 30 4 v91_ (List.length an92_) (an92_.flatMap QAns.cells) :: F) rfl rfl cb10 (qAwake R84_) H214_ ?_)
                          rintro v213_ p218_ w215_ ⟨rfl, rfl⟩ S217_ H216_
                          replace H216_ : Holds w215_ (ro R84_ :: sl 2 1 vs j ((List.take j (P.map Prod.fst)).map (Value.int .i64)) :: sl 30 4 v91_ (List.length an92_) (an92_.flatMap QAns.cells) :: F) := H216_
                          have S219_ := Same.trans S185_ S217_
                          refine S_list (T_val (v := (Value.bool true)) (x_assign rfl) ?_)
                          refine wpList_nil ?_
                          refine (X_then (hK212_ _ _ ?_))
                          clear hK212_
                          refine C_ret ?_
                          refine R_any (v := (Value.bool true)) (run_results1 rfl rfl) ?_
                          have H220_ : Holds w215_ (ro R :: sl 2 1 vs j ((List.take j (P.map Prod.fst)).map (Value.int .i64)) :: sl 30 4 v91_ (List.length an92_) (an92_.flatMap QAns.cells) :: F) := Holds.ro_less H216_ hs85_
                          have H221_ : Holds w215_ (ro R :: F) := (Holds.erase (Holds.erase (Holds.bring H220_ 0 rfl) 1) 1)
                          exact ⟨_, [], rfl, ⟨rfl, rfl⟩, S219_, H221_⟩
                    · have c118_fp : ¬ (((ids.length + j : Nat) : Int) < ((ids.length + j0) : Int)) := of_decide_eq_false c118_f
                      omega
end Go.Proofs.Ytgeggiebefonhaa
