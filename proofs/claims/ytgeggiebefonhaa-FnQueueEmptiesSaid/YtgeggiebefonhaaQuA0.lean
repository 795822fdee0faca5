/- What the methods of a queue of leases come to. -/
import Derived.Test.YtgeggiebefonhaaQuD
import Derived.Test.YtgeggiebefonhaaTy
set_option linter.unusedVariables false
set_option linter.unusedSimpArgs false
namespace Go.Proofs.Ytgeggiebefonhaa
open Go Go.RowKit Gw

set_option maxHeartbeats 400000 in
theorem qAt (R : HP) (t : Int) (q0 : 0 ≤ t) (q1 : t ≤ 1152921504606846976) :
    Tri Try.prog 33 #[(Value.int .i64 t)] R [] (fun v__ post__ => v__ = (Value.agg #[(Value.int .i64 (t / 1000000000)), (Value.int .i64 (t % 1000000000)), (Value.bool true)]) ∧ post__ = []) := by
  refine Tri.into (n := 6) (al := [(Value.int .i64 t)]) Try.func33 rfl Try.ntmps33 rfl rfl fun w F H => ?_
  replace H : Holds w (ro R :: F) := H
  refine C_seq (fun K1_ hK1_ => ?_)
  refine C_reg ?_
  refine S_list (T_alloc z81 H ?_)
  intro b2_ w3_ S5_ H4_
  replace H4_ : Holds w3_ (cl b2_ 81 [(Value.int .i64 0), (Value.int .i64 0), (Value.bool false)] :: ro R :: F) := H4_
  have S6_ := Same.trans (Same.refl w) S5_
  refine wpList_nil ?_
  refine (X_then (hK1_ _ _ ?_))
  clear hK1_
  refine C_seq (fun K7_ hK7_ => ?_)
  refine C_reg ?_
  refine S_list (T_val (v := (Value.agg #[(Value.int .i64 0), (Value.int .i64 0), (Value.bool true)])) (by kernel_rfl) ?_)
  refine S_list (T_val (v := (Value.int .i64 t)) (x_move rfl) ?_)
  refine S_list (T_callW (al := [(Value.agg #[(Value.int .i64 0), (Value.int .i64 0), (Value.bool true)]), (Value.int .i64 t)]) rfl rfl cb64 (Calls.into (n := 40) (al := [(Value.agg #[(Value.int .i64 0), (Value.int .i64 0), (Value.bool true)]), (Value.int .i64 t)]) Try.func64 rfl Try.ntmps64 rfl rfl ?_))
  refine C_seq (fun K8_ hK8_ => ?_)
  refine C_reg ?_
  refine S_list (T_box (v := (Value.agg #[(Value.int .i64 0), (Value.int .i64 0), (Value.bool true)])) rfl H4_ ?_)
  intro b9_ w10_ S12_ H11_
  replace H11_ : Holds w10_ (cl b9_ 81 [(Value.int .i64 0), (Value.int .i64 0), (Value.bool true)] :: cl b2_ 81 [(Value.int .i64 0), (Value.int .i64 0), (Value.bool false)] :: ro R :: F) := H11_
  have S13_ := Same.trans S6_ S12_
  refine S_list (T_alloc z81 H11_ ?_)
  intro b14_ w15_ S17_ H16_
  replace H16_ : Holds w15_ (cl b14_ 81 [(Value.int .i64 0), (Value.int .i64 0), (Value.bool false)] :: cl b9_ 81 [(Value.int .i64 0), (Value.int .i64 0), (Value.bool true)] :: cl b2_ 81 [(Value.int .i64 0), (Value.int .i64 0), (Value.bool false)] :: ro R :: F) := H16_
  have S18_ := Same.trans S13_ S17_
  refine wpList_nil ?_
  refine (X_then (hK8_ _ _ ?_))
  clear hK8_
  refine C_seq (fun K19_ hK19_ => ?_)
  refine C_reg ?_
  refine S_list (T_val (v := (Value.pointer (some ⟨b9_, 0, none⟩))) (by kernel_rfl) ?_)
  refine S_list (T_val (v := (Value.int .i64 0)) (x_load1 rfl Try.underlying2 rfl ((Holds.rd H16_ 1 rfl) 0 (Value.int .i64 0) rfl)) ?_)
  refine S_list (T_val (v := (Value.int .i64 t)) (x_move rfl) ?_)
  refine S_list (T_val (v := (Value.int .i64 (t / 1000000000))) (x_bin rfl rfl (ib_quoI (by omega) (by omega) (by omega))) ?_)
  refine S_list (T_val (v := (Value.int .i64 (0 + (t / 1000000000)))) (x_bin rfl rfl (ib_add (IntWalk.i64_in _ (by omega)))) ?_)
  refine S_list (T_val (v := (Value.pointer (some ⟨b9_, 0, none⟩))) (by kernel_rfl) ?_)
  refine S_list0 (T_store1 (v := (Value.int .i64 (0 + (t / 1000000000)))) rfl rfl z2 rfl H16_ 1 rfl (Nat.le_of_ble_eq_true (by rfl)) ?_)
  intro w20_ S22_ H21_
  replace H21_ : Holds w20_ (cl b14_ 81 [(Value.int .i64 0), (Value.int .i64 0), (Value.bool false)] :: cl b9_ 81 [(Value.int .i64 (0 + (t / 1000000000))), (Value.int .i64 0), (Value.bool true)] :: cl b2_ 81 [(Value.int .i64 0), (Value.int .i64 0), (Value.bool false)] :: ro R :: F) := H21_
  have S23_ := Same.trans S18_ S22_
  refine wpList_nil ?_
  refine (X_then (hK19_ _ _ ?_))
  clear hK19_
  refine C_seq (fun K24_ hK24_ => ?_)
  refine C_reg ?_
  refine S_list (T_val (v := (Value.pointer (some ⟨b9_, 1, none⟩))) (by kernel_rfl) ?_)
  refine S_list (T_val (v := (Value.int .i64 0)) (x_load1 rfl Try.underlying2 rfl ((Holds.rd H21_ 1 rfl) 1 (Value.int .i64 0) rfl)) ?_)
  refine S_list (T_val (v := (Value.int .i64 t)) (x_move rfl) ?_)
  refine S_list (T_val (v := (Value.int .i64 (t % 1000000000))) (x_bin rfl rfl (ib_remI (by omega) (by omega))) ?_)
  refine S_list (T_val (v := (Value.int .i64 (0 + (t % 1000000000)))) (x_bin rfl rfl (ib_add (IntWalk.i64_in _ (by omega)))) ?_)
  refine S_list (T_val (v := (Value.pointer (some ⟨b9_, 1, none⟩))) (by kernel_rfl) ?_)
  refine S_list0 (T_store1 (v := (Value.int .i64 (0 + (t % 1000000000)))) rfl rfl z2 rfl H21_ 1 rfl (Nat.le_of_ble_eq_true (by rfl)) ?_)
  intro w25_ S27_ H26_
  replace H26_ : Holds w25_ (cl b14_ 81 [(Value.int .i64 0), (Value.int .i64 0), (Value.bool false)] :: cl b9_ 81 [(Value.int .i64 (0 + (t / 1000000000))), (Value.int .i64 (0 + (t % 1000000000))), (Value.bool true)] :: cl b2_ 81 [(Value.int .i64 0), (Value.int .i64 0), (Value.bool false)] :: ro R :: F) := H26_
  have S28_ := Same.trans S23_ S27_
  refine wpList_nil ?_
  refine (X_then (hK24_ _ _ ?_))
  clear hK24_
  refine C_seq (fun K29_ hK29_ => ?_)
  refine C_seq (fun K30_ hK30_ => ?_)
  refine C_reg ?_
  refine S_list (T_val (v := (Value.pointer (some ⟨b9_, 1, none⟩))) (by kernel_rfl) ?_)
  refine S_list (T_val (v := (Value.int .i64 (0 + (t % 1000000000)))) (x_load1 rfl Try.underlying2 rfl ((Holds.rd H26_ 1 rfl) 1 (Value.int .i64 (0 + (t % 1000000000))) rfl)) ?_)
  refine S_list (T_val (v := (Value.bool (decide (1000000000 ≤ 0 + (t % 1000000000))))) (x_bin rfl rfl rfl) ?_)
  refine wpList_nil ?_
  refine (X_then (hK30_ _ _ ?_))
  clear hK30_
  refine C_cond (b := decide (1000000000 ≤ 0 + (t % 1000000000))) rfl (fun c31_t => ?_) (fun c31_f => ?_)
  · have c31_tp : 1000000000 ≤ 0 + (t % 1000000000) := of_decide_eq_true c31_t
    omega
  · have c31_fp : ¬ (1000000000 ≤ 0 + (t % 1000000000)) := of_decide_eq_false c31_f
    refine C_skip (X_then (hK29_ _ _ ?_))
    clear hK29_
    refine C_seq (fun K32_ hK32_ => ?_)
    refine C_seq (fun K33_ hK33_ => ?_)
    refine C_reg ?_
    refine S_list (T_val (v := (Value.pointer (some ⟨b9_, 1, none⟩))) (by kernel_rfl) ?_)
    refine S_list (T_val (v := (Value.int .i64 (0 + (t % 1000000000)))) (x_load1 rfl Try.underlying2 rfl ((Holds.rd H26_ 1 rfl) 1 (Value.int .i64 (0 + (t % 1000000000))) rfl)) ?_)
    refine S_list (T_val (v := (Value.bool (decide (0 + (t % 1000000000) < 0)))) (x_bin rfl rfl rfl) ?_)
    refine wpList_nil ?_
    refine (X_then (hK33_ _ _ ?_))
    clear hK33_
    refine C_cond (b := decide (0 + (t % 1000000000) < 0)) rfl (fun c34_t => ?_) (fun c34_f => ?_)
    · have c34_tp : 0 + (t % 1000000000) < 0 := of_decide_eq_true c34_t
      omega
    · have c34_fp : ¬ (0 + (t % 1000000000) < 0) := of_decide_eq_false c34_f
      refine C_skip (X_then (hK32_ _ _ ?_))
      clear hK32_
      refine C_seq (fun K35_ hK35_ => ?_)
      refine C_reg ?_
      refine S_list (T_val (v := (Value.agg #[(Value.int .i64 (0 + (t / 1000000000))), (Value.int .i64 (0 + (t % 1000000000))), (Value.bool true)])) (x_loadN (vs := [(Value.int .i64 (0 + (t / 1000000000))), (Value.int .i64 (0 + (t % 1000000000))), (Value.bool true)]) rfl Try.underlying81 rfl z81 rfl (Rd.cells (Holds.rd H26_ 1 rfl) 0 rfl)) ?_)
      refine S_list0 (T_storeN (vs := [(Value.int .i64 (0 + (t / 1000000000))), (Value.int .i64 (0 + (t % 1000000000))), (Value.bool true)]) rfl rfl z81 rfl (by simp [Value.oneCell']) H26_ 0 rfl (Nat.le_of_ble_eq_true (by rfl)) ?_)
      intro w36_ S38_ H37_
      replace H37_ : Holds w36_ (cl b14_ 81 [(Value.int .i64 (0 + (t / 1000000000))), (Value.int .i64 (0 + (t % 1000000000))), (Value.bool true)] :: cl b9_ 81 [(Value.int .i64 (0 + (t / 1000000000))), (Value.int .i64 (0 + (t % 1000000000))), (Value.bool true)] :: cl b2_ 81 [(Value.int .i64 0), (Value.int .i64 0), (Value.bool false)] :: ro R :: F) := H37_
      have S39_ := Same.trans S28_ S38_
      refine wpList_nil ?_
      refine (X_then (hK35_ _ _ ?_))
      clear hK35_
      refine C_ret ?_
      refine R_any (v := (Value.agg #[(Value.int .i64 (0 + (t / 1000000000))), (Value.int .i64 (0 + (t % 1000000000))), (Value.bool true)])) (run_results1 rfl ⟨_, rfl, load_resN Try.underlying81 rfl z81 rfl (vs := [(Value.int .i64 (0 + (t / 1000000000))), (Value.int .i64 (0 + (t % 1000000000))), (Value.bool true)]) (Holds.cl_cells H37_ 0 rfl 0 rfl)⟩) ⟨_, rfl, ?_⟩
      refine S_list0 (T_storeN (vs := [(Value.int .i64 (0 + (t / 1000000000))), (Value.int .i64 (0 + (t % 1000000000))), (Value.bool true)]) rfl rfl z81 rfl (by simp [Value.oneCell']) H37_ 2 rfl (Nat.le_of_ble_eq_true (by rfl)) ?_)
      intro w40_ S42_ H41_
      replace H41_ : Holds w40_ (cl b14_ 81 [(Value.int .i64 (0 + (t / 1000000000))), (Value.int .i64 (0 + (t % 1000000000))), (Value.bool true)] :: cl b9_ 81 [(Value.int .i64 (0 + (t / 1000000000))), (Value.int .i64 (0 + (t % 1000000000))), (Value.bool true)] :: cl b2_ 81 [(Value.int .i64 (0 + (t / 1000000000))), (Value.int .i64 (0 + (t % 1000000000))), (Value.bool true)] :: ro R :: F) := H41_
      have S43_ := Same.trans S39_ S42_
      refine wpList_nil ?_
      refine (X_then (hK7_ _ _ ?_))
      clear hK7_
      refine C_ret ?_
      refine R_any (v := (Value.agg #[(Value.int .i64 (0 + (t / 1000000000))), (Value.int .i64 (0 + (t % 1000000000))), (Value.bool true)])) (run_results1 rfl ⟨_, rfl, load_resN Try.underlying81 rfl z81 rfl (vs := [(Value.int .i64 (0 + (t / 1000000000))), (Value.int .i64 (0 + (t % 1000000000))), (Value.bool true)]) (Holds.cl_cells H41_ 2 rfl 0 rfl)⟩) ?_
      have H44_ : Holds w40_ (ro R :: F) := (Holds.erase (Holds.erase (Holds.erase (Holds.bring H41_ 3 rfl) 1) 1) 1)
      exact ⟨_, [], rfl, ⟨(congrArg (fun l => Value.agg (List.toArray l)) (lcons (congrArg (Value.int .i64) ((by first | rfl | omega | (simp; done) | (simp; omega)) : 0 + (t / 1000000000) = t / 1000000000)) (lcons (congrArg (Value.int .i64) ((by first | rfl | omega | (simp; done) | (simp; omega)) : 0 + (t % 1000000000) = t % 1000000000)) rfl))), rfl⟩, S43_, H44_⟩

set_option maxHeartbeats 400000 in
theorem qBefore (R : HP) (x y : Int) :
    Tri Try.prog 160 #[(Value.agg #[(Value.int .i64 (x / 1000000000)), (Value.int .i64 (x % 1000000000)), (Value.bool true)]), (Value.agg #[(Value.int .i64 (y / 1000000000)), (Value.int .i64 (y % 1000000000)), (Value.bool true)])] R [] (fun v__ post__ => v__ = (Value.bool (decide (x < y))) ∧ post__ = []) := by
  refine Tri.into (n := 32) (al := [(Value.agg #[(Value.int .i64 (x / 1000000000)), (Value.int .i64 (x % 1000000000)), (Value.bool true)]), (Value.agg #[(Value.int .i64 (y / 1000000000)), (Value.int .i64 (y % 1000000000)), (Value.bool true)])]) Try.func160 rfl Try.ntmps160 rfl rfl fun w F H => ?_
  replace H : Holds w (ro R :: F) := H
  refine C_seq (fun K1_ hK1_ => ?_)
  refine C_reg ?_
  refine S_list (T_box (v := (Value.agg #[(Value.int .i64 (x / 1000000000)), (Value.int .i64 (x % 1000000000)), (Value.bool true)])) rfl H ?_)
  intro b2_ w3_ S5_ H4_
  replace H4_ : Holds w3_ (cl b2_ 81 [(Value.int .i64 (x / 1000000000)), (Value.int .i64 (x % 1000000000)), (Value.bool true)] :: ro R :: F) := H4_
  have S6_ := Same.trans (Same.refl w) S5_
  refine S_list (T_box (v := (Value.agg #[(Value.int .i64 (y / 1000000000)), (Value.int .i64 (y % 1000000000)), (Value.bool true)])) rfl H4_ ?_)
  intro b7_ w8_ S10_ H9_
  replace H9_ : Holds w8_ (cl b7_ 81 [(Value.int .i64 (y / 1000000000)), (Value.int .i64 (y % 1000000000)), (Value.bool true)] :: cl b2_ 81 [(Value.int .i64 (x / 1000000000)), (Value.int .i64 (x % 1000000000)), (Value.bool true)] :: ro R :: F) := H9_
  have S11_ := Same.trans S6_ S10_
  refine S_list (T_val (v := (Value.bool false)) (x_assign rfl) ?_)
  refine wpList_nil ?_
  refine (X_then (hK1_ _ _ ?_))
  clear hK1_
  refine C_seq (fun K12_ hK12_ => ?_)
  refine C_seq (fun K13_ hK13_ => ?_)
  refine C_reg ?_
  refine S_list (T_val (v := (Value.pointer (some ⟨b2_, 2, none⟩))) (by kernel_rfl) ?_)
  refine S_list (T_val (v := (Value.bool true)) (x_load1 rfl Try.underlying4 rfl ((Holds.rd H9_ 1 rfl) 2 (Value.bool true) rfl)) ?_)
  refine S_list (T_val (v := (Value.pointer (some ⟨b7_, 2, none⟩))) (by kernel_rfl) ?_)
  refine S_list (T_val (v := (Value.bool true)) (x_load1 rfl Try.underlying4 rfl ((Holds.rd H9_ 0 rfl) 2 (Value.bool true) rfl)) ?_)
  refine S_list (T_val (v := (Value.bool false)) (x_cast (x_neqB rfl rfl Try.underlying4) rfl) ?_)
  refine wpList_nil ?_
  refine (X_then (hK13_ _ _ ?_))
  clear hK13_
  refine C_condF rfl ?_
  refine C_skip (X_then (hK12_ _ _ ?_))
  clear hK12_
  refine C_seq (fun K14_ hK14_ => ?_)
  refine C_reg ?_
  refine S_list (T_val (v := (Value.pointer (some ⟨b2_, 0, none⟩))) (by kernel_rfl) ?_)
  refine S_list (T_val (v := (Value.int .i64 (x / 1000000000))) (x_load1 rfl Try.underlying2 rfl ((Holds.rd H9_ 1 rfl) 0 (Value.int .i64 (x / 1000000000)) rfl)) ?_)
  refine S_list (T_val (v := (Value.pointer (some ⟨b7_, 0, none⟩))) (by kernel_rfl) ?_)
  refine S_list (T_val (v := (Value.int .i64 (y / 1000000000))) (x_load1 rfl Try.underlying2 rfl ((Holds.rd H9_ 0 rfl) 0 (Value.int .i64 (y / 1000000000)) rfl)) ?_)
  refine S_list (T_val (v := (Value.bool (decide (x / 1000000000 < y / 1000000000)))) (x_bin rfl rfl rfl) ?_)
  refine S_list (T_val (v := (Value.bool (decide (x / 1000000000 < y / 1000000000)))) (x_move rfl) ?_)
  rcases Bool.eq_false_or_eq_true (decide (x / 1000000000 < y / 1000000000)) with c15_t | c15_f
  · have c15_tp : x / 1000000000 < y / 1000000000 := of_decide_eq_true c15_t
    refine S_no (j := 5) (dj := 18) (b := true) rfl rfl (congrArg Value.bool c15_t) (by decide) ?_
    refine S_no (j := 5) (dj := 18) (b := true) rfl rfl (congrArg Value.bool c15_t) (by decide) ?_
    refine S_no (j := 5) (dj := 18) (b := true) rfl rfl (congrArg Value.bool c15_t) (by decide) ?_
    refine S_no (j := 5) (dj := 18) (b := true) rfl rfl (congrArg Value.bool c15_t) (by decide) ?_
    refine S_no (j := 5) (dj := 18) (b := true) rfl rfl (congrArg Value.bool c15_t) (by decide) ?_
    refine S_no (j := 5) (dj := 18) (b := true) rfl rfl (congrArg Value.bool c15_t) (by decide) ?_
    refine S_noU (j := 11) (dj := 24) rfl rfl rfl ?_
    refine S_noU (j := 11) (dj := 24) rfl rfl rfl ?_
    refine S_noU (j := 11) (dj := 24) rfl rfl rfl ?_
    refine S_noU (j := 11) (dj := 24) rfl rfl rfl ?_
    refine S_noU (j := 11) (dj := 24) rfl rfl rfl ?_
    refine S_no (j := 5) (dj := 18) (b := true) rfl rfl (congrArg Value.bool c15_t) (by decide) ?_
    refine S_list (T_pickT (v := (Value.bool true)) (congrArg Value.bool c15_t) rfl ?_)
    refine S_list (T_val (v := (Value.bool true)) (x_assign rfl) ?_)
    refine wpList_nil ?_
    refine (X_then (hK14_ _ _ ?_))
    clear hK14_
    refine C_ret ?_
    refine R_any (v := (Value.bool true)) (run_results1 rfl rfl) ?_
    have H16_ : Holds w8_ (ro R :: F) := (Holds.erase (Holds.erase (Holds.bring H9_ 2 rfl) 1) 1)
    exact ⟨_, [], rfl, ⟨(congrArg Value.bool ((by simp; omega) : true = (decide (x < y)))), rfl⟩, S11_, H16_⟩
  · have c15_fp : ¬ (x / 1000000000 < y / 1000000000) := of_decide_eq_false c15_f
    refine S_yes (j := 5) (dj := 18) (b := false) rfl rfl (congrArg Value.bool c15_f) (T_val (v := (Value.pointer (some ⟨b2_, 0, none⟩))) (by kernel_rfl) ?_)
    refine S_yes (j := 5) (dj := 18) (b := false) rfl rfl (congrArg Value.bool c15_f) (T_val (v := (Value.int .i64 (x / 1000000000))) (x_load1 rfl Try.underlying2 rfl ((Holds.rd H9_ 1 rfl) 0 (Value.int .i64 (x / 1000000000)) rfl)) ?_)
    refine S_yes (j := 5) (dj := 18) (b := false) rfl rfl (congrArg Value.bool c15_f) (T_val (v := (Value.pointer (some ⟨b7_, 0, none⟩))) (by kernel_rfl) ?_)
    refine S_yes (j := 5) (dj := 18) (b := false) rfl rfl (congrArg Value.bool c15_f) (T_val (v := (Value.int .i64 (y / 1000000000))) (x_load1 rfl Try.underlying2 rfl ((Holds.rd H9_ 0 rfl) 0 (Value.int .i64 (y / 1000000000)) rfl)) ?_)
    refine S_yes (j := 5) (dj := 18) (b := false) rfl rfl (congrArg Value.bool c15_f) (T_val (v := (Value.bool (decide (x / 1000000000 = y / 1000000000)))) (x_bin rfl rfl rfl) ?_)
    refine S_yes (j := 5) (dj := 18) (b := false) rfl rfl (congrArg Value.bool c15_f) (T_val (v := (Value.bool (decide (x / 1000000000 = y / 1000000000)))) (x_move rfl) ?_)
    rcases Bool.eq_false_or_eq_true (decide (x / 1000000000 = y / 1000000000)) with c17_t | c17_f
    · have c17_tp : x / 1000000000 = y / 1000000000 := of_decide_eq_true c17_t
      refine S_yes (j := 11) (dj := 24) (b := true) rfl rfl (congrArg Value.bool c17_t) (T_val (v := (Value.pointer (some ⟨b2_, 1, none⟩))) (by kernel_rfl) ?_)
      refine S_yes (j := 11) (dj := 24) (b := true) rfl rfl (congrArg Value.bool c17_t) (T_val (v := (Value.int .i64 (x % 1000000000))) (x_load1 rfl Try.underlying2 rfl ((Holds.rd H9_ 1 rfl) 1 (Value.int .i64 (x % 1000000000)) rfl)) ?_)
      refine S_yes (j := 11) (dj := 24) (b := true) rfl rfl (congrArg Value.bool c17_t) (T_val (v := (Value.pointer (some ⟨b7_, 1, none⟩))) (by kernel_rfl) ?_)
      refine S_yes (j := 11) (dj := 24) (b := true) rfl rfl (congrArg Value.bool c17_t) (T_val (v := (Value.int .i64 (y % 1000000000))) (x_load1 rfl Try.underlying2 rfl ((Holds.rd H9_ 0 rfl) 1 (Value.int .i64 (y % 1000000000)) rfl)) ?_)
      refine S_yes (j := 11) (dj := 24) (b := true) rfl rfl (congrArg Value.bool c17_t) (T_val (v := (Value.bool (decide (x % 1000000000 < y % 1000000000)))) (x_bin rfl rfl rfl) ?_)
      refine S_yes (j := 5) (dj := 18) (b := false) rfl rfl (congrArg Value.bool c15_f) (T_pickT (v := (Value.bool (decide (x % 1000000000 < y % 1000000000)))) (congrArg Value.bool c17_t) rfl ?_)
      refine S_list (T_pickF (v := (Value.bool (decide (x % 1000000000 < y % 1000000000)))) (congrArg Value.bool c15_f) rfl ?_)
      refine S_list (T_val (v := (Value.bool (decide (x % 1000000000 < y % 1000000000)))) (x_assign rfl) ?_)
      refine wpList_nil ?_
      refine (X_then (hK14_ _ _ ?_))
      clear hK14_
      refine C_ret ?_
      refine R_any (v := (Value.bool (decide (x % 1000000000 < y % 1000000000)))) (run_results1 rfl rfl) ?_
      have H18_ : Holds w8_ (ro R :: F) := (Holds.erase (Holds.erase (Holds.bring H9_ 2 rfl) 1) 1)
      exact ⟨_, [], rfl, ⟨(congrArg Value.bool ((by simp only [decide_eq_decide]; omega) : (decide (x % 1000000000 < y % 1000000000)) = (decide (x < y)))), rfl⟩, S11_, H18_⟩
    · have c17_fp : ¬ (x / 1000000000 = y / 1000000000) := of_decide_eq_false c17_f
      refine S_no (j := 11) (dj := 24) (b := false) rfl rfl (congrArg Value.bool c17_f) (by decide) ?_
      refine S_no (j := 11) (dj := 24) (b := false) rfl rfl (congrArg Value.bool c17_f) (by decide) ?_
      refine S_no (j := 11) (dj := 24) (b := false) rfl rfl (congrArg Value.bool c17_f) (by decide) ?_
      refine S_no (j := 11) (dj := 24) (b := false) rfl rfl (congrArg Value.bool c17_f) (by decide) ?_
      refine S_no (j := 11) (dj := 24) (b := false) rfl rfl (congrArg Value.bool c17_f) (by decide) ?_
      refine S_yes (j := 5) (dj := 18) (b := false) rfl rfl (congrArg Value.bool c15_f) (T_pickF (v := (Value.bool false)) (congrArg Value.bool c17_f) rfl ?_)
      refine S_list (T_pickF (v := (Value.bool false)) (congrArg Value.bool c15_f) rfl ?_)
      refine S_list (T_val (v := (Value.bool false)) (x_assign rfl) ?_)
      refine wpList_nil ?_
      refine (X_then (hK14_ _ _ ?_))
      clear hK14_
      refine C_ret ?_
      refine R_any (v := (Value.bool false)) (run_results1 rfl rfl) ?_
      have H19_ : Holds w8_ (ro R :: F) := (Holds.erase (Holds.erase (Holds.bring H9_ 2 rfl) 1) 1)
      exact ⟨_, [], rfl, ⟨(congrArg Value.bool ((by simp; omega) : false = (decide (x < y)))), rfl⟩, S11_, H19_⟩

set_option maxHeartbeats 400000 in
theorem qNanos (R : HP) (t : Int) (q0 : 0 ≤ t) (q1 : t ≤ 1152921504606846976) :
    Tri Try.prog 36 #[(Value.agg #[(Value.int .i64 (t / 1000000000)), (Value.int .i64 (t % 1000000000)), (Value.bool true)])] R [] (fun v__ post__ => v__ = (Value.int .i64 t) ∧ post__ = []) := by
  refine Tri.into (n := 9) (al := [(Value.agg #[(Value.int .i64 (t / 1000000000)), (Value.int .i64 (t % 1000000000)), (Value.bool true)])]) Try.func36 rfl Try.ntmps36 rfl rfl fun w F H => ?_
  replace H : Holds w (ro R :: F) := H
  refine C_seq (fun K1_ hK1_ => ?_)
  refine C_reg ?_
  refine S_list (T_box (v := (Value.agg #[(Value.int .i64 (t / 1000000000)), (Value.int .i64 (t % 1000000000)), (Value.bool true)])) rfl H ?_)
  intro b2_ w3_ S5_ H4_
  replace H4_ : Holds w3_ (cl b2_ 81 [(Value.int .i64 (t / 1000000000)), (Value.int .i64 (t % 1000000000)), (Value.bool true)] :: ro R :: F) := H4_
  have S6_ := Same.trans (Same.refl w) S5_
  refine S_list (T_val (v := (Value.int .i64 0)) (x_assign rfl) ?_)
  refine wpList_nil ?_
  refine (X_then (hK1_ _ _ ?_))
  clear hK1_
  refine C_seq (fun K7_ hK7_ => ?_)
  refine C_reg ?_
  refine S_list (T_val (v := (Value.pointer (some ⟨b2_, 0, none⟩))) (by kernel_rfl) ?_)
  refine S_list (T_val (v := (Value.int .i64 (t / 1000000000))) (x_load1 rfl Try.underlying2 rfl ((Holds.rd H4_ 0 rfl) 0 (Value.int .i64 (t / 1000000000)) rfl)) ?_)
  refine S_list (T_val (v := (Value.int .i64 ((t / 1000000000) * 1000000000))) (x_bin rfl rfl (ib_mul (IntWalk.i64_in _ (by omega)))) ?_)
  refine S_list (T_val (v := (Value.pointer (some ⟨b2_, 1, none⟩))) (by kernel_rfl) ?_)
  refine S_list (T_val (v := (Value.int .i64 (t % 1000000000))) (x_load1 rfl Try.underlying2 rfl ((Holds.rd H4_ 0 rfl) 1 (Value.int .i64 (t % 1000000000)) rfl)) ?_)
  refine S_list (T_val (v := (Value.int .i64 (((t / 1000000000) * 1000000000) + (t % 1000000000)))) (x_bin rfl rfl (ib_add (IntWalk.i64_in _ (by omega)))) ?_)
  refine S_list (T_val (v := (Value.int .i64 (((t / 1000000000) * 1000000000) + (t % 1000000000)))) (x_assign rfl) ?_)
  refine wpList_nil ?_
  refine (X_then (hK7_ _ _ ?_))
  clear hK7_
  refine C_ret ?_
  refine R_any (v := (Value.int .i64 (((t / 1000000000) * 1000000000) + (t % 1000000000)))) (run_results1 rfl rfl) ?_
  have H8_ : Holds w3_ (ro R :: F) := (Holds.erase (Holds.bring H4_ 1 rfl) 1)
  exact ⟨_, [], rfl, ⟨(congrArg (Value.int .i64) ((by first | rfl | omega | (simp; done) | (simp; omega)) : ((t / 1000000000) * 1000000000) + (t % 1000000000) = t)), rfl⟩, S6_, H8_⟩

set_option maxHeartbeats 400000 in
theorem qLen (R : HP) (v : Value) (m : Nat) (xs : List Value) :
    Tri Try.prog 157 #[v] R [sl 77 1 v m xs] (fun v__ post__ => v__ = (Value.int .i64 (m : Int)) ∧ post__ = [sl 77 1 v m xs]) := by
  refine Tri.into (n := 5) (al := [v]) Try.func157 rfl Try.ntmps157 rfl rfl fun w F H => ?_
  replace H : Holds w (ro R :: sl 77 1 v m xs :: F) := H
  refine C_seq (fun K1_ hK1_ => ?_)
  refine C_reg ?_
  refine S_list (T_val (v := (Value.int .i64 0)) (x_assign rfl) ?_)
  refine wpList_nil ?_
  refine (X_then (hK1_ _ _ ?_))
  clear hK1_
  refine C_seq (fun K2_ hK2_ => ?_)
  refine C_reg ?_
  refine S_list (T_val (v := v) (x_move rfl) ?_)
  refine S_list (T_val (v := (Value.int .i64 (m : Int))) (x_lenSl rfl H 1 rfl Try.underlying133) ?_)
  refine S_list (T_val (v := (Value.int .i64 (m : Int))) (x_assign rfl) ?_)
  refine wpList_nil ?_
  refine (X_then (hK2_ _ _ ?_))
  clear hK2_
  refine C_ret ?_
  refine R_any (v := (Value.int .i64 (m : Int))) (run_results1 rfl rfl) ?_
  exact ⟨_, [sl 77 1 v m xs], rfl, ⟨rfl, rfl⟩, (Same.refl w), H⟩

set_option maxHeartbeats 400000 in
theorem qLess (R : HP) (v : Value) (q : List Nd) (i j : Nat) (x y : Nd) (hx : q[i]? = some x) (hy : q[j]? = some y) :
    Tri Try.prog 158 #[v, (Value.int .i64 (i : Int)), (Value.int .i64 (j : Int))] R [sl 77 1 v (List.length q) (ptrs q), fam 137 (encs q)] (fun v__ post__ => v__ = (Value.bool (decide (x.t < y.t))) ∧ post__ = [sl 77 1 v (List.length q) (ptrs q), fam 137 (encs q)]) := by
  have hi_ := (List.getElem?_eq_some_iff.1 hx).1
  have hj_ := (List.getElem?_eq_some_iff.1 hy).1
  refine Tri.into (n := 22) (al := [v, (Value.int .i64 (i : Int)), (Value.int .i64 (j : Int))]) Try.func158 rfl Try.ntmps158 rfl rfl fun w F H => ?_
  replace H : Holds w (ro R :: sl 77 1 v (List.length q) (ptrs q) :: fam 137 (encs q) :: F) := H
  refine C_seq (fun K1_ hK1_ => ?_)
  refine C_reg ?_
  refine S_list (T_val (v := (Value.bool false)) (x_assign rfl) ?_)
  refine wpList_nil ?_
  refine (X_then (hK1_ _ _ ?_))
  clear hK1_
  refine C_seq (fun K2_ hK2_ => ?_)
  refine A_start (S := fun w => SlRd v (ptrs q) w ∧ FamRd (encs q) w ∧ Sub R (hp w)) (N := 16) foll rfl rfl ?_
  have H3_ : Holds w.drew (ro R :: sl 77 1 v (List.length q) (ptrs q) :: fam 137 (encs q) :: F) := H
  refine A_take 0 (ls' := #[true, false, false, false, false, false, false, false, false, false, false, false, false, false, false, false]) (v := v) rfl (by kernel_rfl) (by kernel_rfl) (by kernel_rfl) (by kernel_rfl) (fun _ _ _ h => h) (fun w hS => x_move rfl) ⟨Holds.slrd H3_ 1 rfl, Holds.famrd H3_ 2 rfl, (Holds.ro_at H3_ 0 rfl)⟩ ?_
  refine A_take 1 (ls' := #[true, true, false, false, false, false, false, false, false, false, false, false, false, false, false, false]) (v := (Value.int .i64 (i : Int))) rfl (by kernel_rfl) (by kernel_rfl) (by kernel_rfl) (by kernel_rfl) (fun _ _ _ h => h) (fun w hS => x_move rfl) ⟨Holds.slrd H3_ 1 rfl, Holds.famrd H3_ 2 rfl, (Holds.ro_at H3_ 0 rfl)⟩ ?_
  have hr4_ := Holds.sl_RSw H3_ 1 rfl
  refine A_take 2 (ls' := #[true, true, true, false, false, false, false, false, false, false, false, false, false, false, false, false]) (v := (Value.pointer (some ⟨(sb v), so v + i, none⟩))) rfl (by kernel_rfl) (by kernel_rfl) (by kernel_rfl) (by kernel_rfl) (fun _ _ _ h => h) (fun w hS => x_idxSlR (v := v) rfl hr4_ rfl Try.underlying133 z77 (by omega) (by omega) (by omega : _ = i) (by rw [Nat.mul_one])) ⟨Holds.slrd H3_ 1 rfl, Holds.famrd H3_ 2 rfl, (Holds.ro_at H3_ 0 rfl)⟩ ?_
  refine A_take 3 (ls' := #[true, true, true, true, false, false, false, false, false, false, false, false, false, false, false, false]) (v := (Value.pointer (some ⟨x.b, 0, none⟩))) rfl (by kernel_rfl) (by kernel_rfl) (by kernel_rfl) (by kernel_rfl) (fun _ _ _ h => h) (fun w hS => x_load1 rfl Try.underlying77 rfl (hS.1 _ _ (ptrs_at hx))) ⟨Holds.slrd H3_ 1 rfl, Holds.famrd H3_ 2 rfl, (Holds.ro_at H3_ 0 rfl)⟩ ?_
  refine A_take 4 (ls' := #[true, true, true, true, true, false, false, false, false, false, false, false, false, false, false, false]) (v := (Value.pointer (some ⟨x.b, 0, none⟩))) rfl (by kernel_rfl) (by kernel_rfl) (by kernel_rfl) (by kernel_rfl) (fun _ _ _ h => h) (fun w hS => by kernel_rfl) ⟨Holds.slrd H3_ 1 rfl, Holds.famrd H3_ 2 rfl, (Holds.ro_at H3_ 0 rfl)⟩ ?_
  refine A_take 5 (ls' := #[true, true, true, true, true, true, false, false, false, false, false, false, false, false, false, false]) (v := (Value.pointer (some ⟨x.b, 1, none⟩))) rfl (by kernel_rfl) (by kernel_rfl) (by kernel_rfl) (by kernel_rfl) (fun _ _ _ h => h) (fun w hS => by kernel_rfl) ⟨Holds.slrd H3_ 1 rfl, Holds.famrd H3_ 2 rfl, (Holds.ro_at H3_ 0 rfl)⟩ ?_
  refine A_take 6 (ls' := #[true, true, true, true, true, true, true, false, false, false, false, false, false, false, false, false]) (v := (Value.agg #[(Value.int .i64 (x.t / 1000000000)), (Value.int .i64 (x.t % 1000000000)), (Value.bool true)])) rfl (by kernel_rfl) (by kernel_rfl) (by kernel_rfl) (by kernel_rfl) (fun _ _ _ h => h) (fun w hS => x_loadN (vs := [(Value.int .i64 (x.t / 1000000000)), (Value.int .i64 (x.t % 1000000000)), (Value.bool true)]) rfl Try.underlying81 rfl z81 rfl (Rd.cells (hS.2.1 _ _ _ (encs_at hx)) 1 rfl)) ⟨Holds.slrd H3_ 1 rfl, Holds.famrd H3_ 2 rfl, (Holds.ro_at H3_ 0 rfl)⟩ ?_
  refine A_take 7 (ls' := #[true, true, true, true, true, true, true, true, false, false, false, false, false, false, false, false]) (v := v) rfl (by kernel_rfl) (by kernel_rfl) (by kernel_rfl) (by kernel_rfl) (fun _ _ _ h => h) (fun w hS => x_move rfl) ⟨Holds.slrd H3_ 1 rfl, Holds.famrd H3_ 2 rfl, (Holds.ro_at H3_ 0 rfl)⟩ ?_
  refine A_take 8 (ls' := #[true, true, true, true, true, true, true, true, true, false, false, false, false, false, false, false]) (v := (Value.int .i64 (j : Int))) rfl (by kernel_rfl) (by kernel_rfl) (by kernel_rfl) (by kernel_rfl) (fun _ _ _ h => h) (fun w hS => x_move rfl) ⟨Holds.slrd H3_ 1 rfl, Holds.famrd H3_ 2 rfl, (Holds.ro_at H3_ 0 rfl)⟩ ?_
  refine A_take 9 (ls' := #[true, true, true, true, true, true, true, true, true, true, false, false, false, false, false, false]) (v := (Value.pointer (some ⟨(sb v), so v + j, none⟩))) rfl (by kernel_rfl) (by kernel_rfl) (by kernel_rfl) (by kernel_rfl) (fun _ _ _ h => h) (fun w hS => x_idxSlR (v := v) rfl hr4_ rfl Try.underlying133 z77 (by omega) (by omega) (by omega : _ = j) (by rw [Nat.mul_one])) ⟨Holds.slrd H3_ 1 rfl, Holds.famrd H3_ 2 rfl, (Holds.ro_at H3_ 0 rfl)⟩ ?_
  refine A_take 10 (ls' := #[true, true, true, true, true, true, true, true, true, true, true, false, false, false, false, false]) (v := (Value.pointer (some ⟨y.b, 0, none⟩))) rfl (by kernel_rfl) (by kernel_rfl) (by kernel_rfl) (by kernel_rfl) (fun _ _ _ h => h) (fun w hS => x_load1 rfl Try.underlying77 rfl (hS.1 _ _ (ptrs_at hy))) ⟨Holds.slrd H3_ 1 rfl, Holds.famrd H3_ 2 rfl, (Holds.ro_at H3_ 0 rfl)⟩ ?_
  refine A_take 11 (ls' := #[true, true, true, true, true, true, true, true, true, true, true, true, false, false, false, false]) (v := (Value.pointer (some ⟨y.b, 0, none⟩))) rfl (by kernel_rfl) (by kernel_rfl) (by kernel_rfl) (by kernel_rfl) (fun _ _ _ h => h) (fun w hS => by kernel_rfl) ⟨Holds.slrd H3_ 1 rfl, Holds.famrd H3_ 2 rfl, (Holds.ro_at H3_ 0 rfl)⟩ ?_
  refine A_take 12 (ls' := #[true, true, true, true, true, true, true, true, true, true, true, true, true, false, false, false]) (v := (Value.pointer (some ⟨y.b, 1, none⟩))) rfl (by kernel_rfl) (by kernel_rfl) (by kernel_rfl) (by kernel_rfl) (fun _ _ _ h => h) (fun w hS => by kernel_rfl) ⟨Holds.slrd H3_ 1 rfl, Holds.famrd H3_ 2 rfl, (Holds.ro_at H3_ 0 rfl)⟩ ?_
  refine A_take 13 (ls' := #[true, true, true, true, true, true, true, true, true, true, true, true, true, true, false, false]) (v := (Value.agg #[(Value.int .i64 (y.t / 1000000000)), (Value.int .i64 (y.t % 1000000000)), (Value.bool true)])) rfl (by kernel_rfl) (by kernel_rfl) (by kernel_rfl) (by kernel_rfl) (fun _ _ _ h => h) (fun w hS => x_loadN (vs := [(Value.int .i64 (y.t / 1000000000)), (Value.int .i64 (y.t % 1000000000)), (Value.bool true)]) rfl Try.underlying81 rfl z81 rfl (Rd.cells (hS.2.1 _ _ _ (encs_at hy)) 1 rfl)) ⟨Holds.slrd H3_ 1 rfl, Holds.famrd H3_ 2 rfl, (Holds.ro_at H3_ 0 rfl)⟩ ?_
  refine A_ready (i := 14) (rs := []) (by kernel_rfl) ?_
  refine AllR.cons ?_ AllR.nil
  refine A_op (ls' := #[true, true, true, true, true, true, true, true, true, true, true, true, true, true, true, false]) rfl (by kernel_rfl) (T_call (al := [(Value.agg #[(Value.int .i64 (x.t / 1000000000)), (Value.int .i64 (x.t % 1000000000)), (Value.bool true)]), (Value.agg #[(Value.int .i64 (y.t / 1000000000)), (Value.int .i64 (y.t % 1000000000)), (Value.bool true)])]) (pre := []) (F := sl 77 1 v (List.length q) (ptrs q) :: fam 137 (encs q) :: F) rfl rfl cb160 (qBefore R x.t y.t) H3_ ?_)
  rintro v5_ p9_ w6_ ⟨rfl, rfl⟩ S8_ H7_
  replace H7_ : Holds w6_ (ro R :: sl 77 1 v (List.length q) (ptrs q) :: fam 137 (encs q) :: F) := H7_
  have S10_ := Same.trans (Same.trans (Same.refl w) (Same.drew _)) S8_
  refine ⟨⟨Holds.slrd H7_ 1 rfl, Holds.famrd H7_ 2 rfl, (Holds.ro_at H7_ 0 rfl)⟩, ?_⟩
  refine A_take 15 (ls' := #[true, true, true, true, true, true, true, true, true, true, true, true, true, true, true, true]) (v := (Value.bool (decide (x.t < y.t)))) rfl (by kernel_rfl) (by kernel_rfl) (by kernel_rfl) (by kernel_rfl) (fun _ _ _ h => h) (fun w hS => x_assign rfl) ⟨Holds.slrd H7_ 1 rfl, Holds.famrd H7_ 2 rfl, (Holds.ro_at H7_ 0 rfl)⟩ ?_
  refine A_done (by kernel_rfl) ?_
  refine (X_then (hK2_ _ _ ?_))
  clear hK2_
  refine C_ret ?_
  refine R_any (v := (Value.bool (decide (x.t < y.t)))) (run_results1 rfl rfl) ?_
  exact ⟨_, [sl 77 1 v (List.length q) (ptrs q), fam 137 (encs q)], rfl, ⟨rfl, rfl⟩, S10_, H7_⟩
end Go.Proofs.Ytgeggiebefonhaa
