/- Which rows count. -/
import Derived.Test.YtgeggiebefonhaaHdB0
set_option linter.unusedVariables false
set_option linter.unusedSimpArgs false
namespace Go.Proofs.Ytgeggiebefonhaa
open Go Go.RowKit Gw

set_option maxHeartbeats 400000 in
theorem lRoHash (R : HP) (compact rev : Int) (vk v : Value) (K : List RV) (L : List RW) (hKs : RS R 2 vk K.length (K.flatMap RV.cells)) (hL : RS R 9 v L.length (L.flatMap RW.cells)) :
    Tri Try.prog 12 #[(Value.int .i64 compact), (Value.int .i64 rev), vk, v] R [] (fun v__ post__ => ∃ (b : Bool), v__ = (Value.bool b) ∧ post__ = [] ∧ (b = true → -1 ≤ compact ∧ compact < 4611686018427387904 ∧ 0 ≤ rev ∧ rev < 4611686018427387904 ∧ K.length ≤ 200 ∧ L.length ≤ 200 ∧ ∀ x ∈ L, 1 ≤ x.rev_Main ∧ 0 ≤ x.rev_Sub ∧ x.kV_Key.size ≤ 60 ∧ x.kV_Value.size ≤ 60)) := by
  refine Tri.into (n := 32) (al := [(Value.int .i64 compact), (Value.int .i64 rev), vk, v]) Try.func12 rfl Try.ntmps12 rfl rfl fun w F H => ?_
  replace H : Holds w (ro R :: F) := H
  refine C_seq (fun K1_ hK1_ => ?_)
  refine C_reg ?_
  refine S_list (T_val (v := (Value.bool false)) (x_assign rfl) ?_)
  refine wpList_nil ?_
  refine (X_then (hK1_ _ _ ?_))
  clear hK1_
  refine C_seq (fun K2_ hK2_ => ?_)
  refine C_reg ?_
  refine S_list (T_val (v := v) (x_move rfl) ?_)
  refine S_list (T_call (al := [v]) (pre := []) (F := F) rfl rfl cb40 (lRoGood R v L hL) H ?_)
  rintro v3_ p9_ w6_ ⟨b4_, rfl, rfl, he5_⟩ S8_ H7_
  replace H7_ : Holds w6_ (ro R :: F) := H7_
  have S10_ := Same.trans (Same.refl w) S8_
  refine S_list (T_val (v := (Value.bool b4_)) (x_move rfl) ?_)
  rcases Bool.eq_false_or_eq_true (b4_) with c11_t | c11_f
  · skip
    refine S_yes (j := 2) (dj := 11) (b := true) rfl rfl (congrArg Value.bool c11_t) (T_val (v := (Value.int .i64 compact)) (x_move rfl) ?_)
    refine S_yes (j := 2) (dj := 11) (b := true) rfl rfl (congrArg Value.bool c11_t) (T_val (v := (Value.bool (decide (-1 ≤ compact)))) (x_bin rfl rfl rfl) ?_)
    refine S_list (T_pickT (v := (Value.bool (decide (-1 ≤ compact)))) (congrArg Value.bool c11_t) rfl ?_)
    refine S_list (T_val (v := (Value.bool (decide (-1 ≤ compact)))) (x_move rfl) ?_)
    rcases Bool.eq_false_or_eq_true (decide (-1 ≤ compact)) with c12_t | c12_f
    · have c12_tp : -1 ≤ compact := of_decide_eq_true c12_t
      refine S_yes (j := 6) (dj := 15) (b := true) rfl rfl (congrArg Value.bool c12_t) (T_val (v := (Value.int .i64 rev)) (x_move rfl) ?_)
      refine S_yes (j := 6) (dj := 15) (b := true) rfl rfl (congrArg Value.bool c12_t) (T_val (v := (Value.bool (decide (0 ≤ rev)))) (x_bin rfl rfl rfl) ?_)
      refine S_list (T_pickT (v := (Value.bool (decide (0 ≤ rev)))) (congrArg Value.bool c12_t) rfl ?_)
      refine S_list (T_val (v := (Value.bool (decide (0 ≤ rev)))) (x_move rfl) ?_)
      rcases Bool.eq_false_or_eq_true (decide (0 ≤ rev)) with c13_t | c13_f
      · have c13_tp : 0 ≤ rev := of_decide_eq_true c13_t
        refine S_yes (j := 10) (dj := 19) (b := true) rfl rfl (congrArg Value.bool c13_t) (T_val (v := (Value.int .i64 rev)) (x_move rfl) ?_)
        refine S_yes (j := 10) (dj := 19) (b := true) rfl rfl (congrArg Value.bool c13_t) (T_val (v := (Value.bool (decide (rev < 4611686018427387904)))) (x_bin rfl rfl rfl) ?_)
        refine S_list (T_pickT (v := (Value.bool (decide (rev < 4611686018427387904)))) (congrArg Value.bool c13_t) rfl ?_)
        refine S_list (T_val (v := (Value.bool (decide (rev < 4611686018427387904)))) (x_move rfl) ?_)
        rcases Bool.eq_false_or_eq_true (decide (rev < 4611686018427387904)) with c14_t | c14_f
        · have c14_tp : rev < 4611686018427387904 := of_decide_eq_true c14_t
          refine S_yes (j := 14) (dj := 23) (b := true) rfl rfl (congrArg Value.bool c14_t) (T_val (v := (Value.int .i64 compact)) (x_move rfl) ?_)
          refine S_yes (j := 14) (dj := 23) (b := true) rfl rfl (congrArg Value.bool c14_t) (T_val (v := (Value.bool (decide (compact < 4611686018427387904)))) (x_bin rfl rfl rfl) ?_)
          refine S_list (T_pickT (v := (Value.bool (decide (compact < 4611686018427387904)))) (congrArg Value.bool c14_t) rfl ?_)
          refine S_list (T_val (v := (Value.bool (decide (compact < 4611686018427387904)))) (x_move rfl) ?_)
          rcases Bool.eq_false_or_eq_true (decide (compact < 4611686018427387904)) with c15_t | c15_f
          · have c15_tp : compact < 4611686018427387904 := of_decide_eq_true c15_t
            refine S_yes (j := 18) (dj := 27) (b := true) rfl rfl (congrArg Value.bool c15_t) (T_val (v := vk) (x_move rfl) ?_)
            refine S_yes (j := 18) (dj := 27) (b := true) rfl rfl (congrArg Value.bool c15_t) (T_val (v := (Value.int .i64 (K.length : Int))) (x_lenRS rfl hKs Try.underlying33) ?_)
            refine S_yes (j := 18) (dj := 27) (b := true) rfl rfl (congrArg Value.bool c15_t) (T_val (v := (Value.bool (decide ((K.length : Int) ≤ 200)))) (x_bin rfl rfl rfl) ?_)
            refine S_list (T_pickT (v := (Value.bool (decide ((K.length : Int) ≤ 200)))) (congrArg Value.bool c15_t) rfl ?_)
            refine S_list (T_val (v := (Value.bool (decide ((K.length : Int) ≤ 200)))) (x_assign rfl) ?_)
            refine wpList_nil ?_
            refine (X_then (hK2_ _ _ ?_))
            clear hK2_
            refine C_ret ?_
            refine R_any (v := (Value.bool (decide ((K.length : Int) ≤ 200)))) (run_results1 rfl rfl) ?_
            exact ⟨_, [], rfl, ⟨decide ((K.length : Int) ≤ 200), rfl, rfl, (fun h => by first | (cases h; done) | (have h1 := of_decide_eq_true h; have h2 := he5_ (by simp_all); exact ⟨by omega, by omega, by omega, by omega, by omega, h2⟩))⟩, S10_, H7_⟩
          · have c15_fp : ¬ (compact < 4611686018427387904) := of_decide_eq_false c15_f
            refine S_no (j := 18) (dj := 27) (b := false) rfl rfl (congrArg Value.bool c15_f) (by decide) ?_
            refine S_no (j := 18) (dj := 27) (b := false) rfl rfl (congrArg Value.bool c15_f) (by decide) ?_
            refine S_no (j := 18) (dj := 27) (b := false) rfl rfl (congrArg Value.bool c15_f) (by decide) ?_
            refine S_list (T_pickF (v := (Value.bool false)) (congrArg Value.bool c15_f) rfl ?_)
            refine S_list (T_val (v := (Value.bool false)) (x_assign rfl) ?_)
            refine wpList_nil ?_
            refine (X_then (hK2_ _ _ ?_))
            clear hK2_
            refine C_ret ?_
            refine R_any (v := (Value.bool false)) (run_results1 rfl rfl) ?_
            exact ⟨_, [], rfl, ⟨false, rfl, rfl, (fun h => by first | (cases h; done) | (have h1 := of_decide_eq_true h; have h2 := he5_ (by simp_all); exact ⟨by omega, by omega, by omega, by omega, by omega, h2⟩))⟩, S10_, H7_⟩
        · have c14_fp : ¬ (rev < 4611686018427387904) := of_decide_eq_false c14_f
          refine S_no (j := 14) (dj := 23) (b := false) rfl rfl (congrArg Value.bool c14_f) (by decide) ?_
          refine S_no (j := 14) (dj := 23) (b := false) rfl rfl (congrArg Value.bool c14_f) (by decide) ?_
          refine S_list (T_pickF (v := (Value.bool false)) (congrArg Value.bool c14_f) rfl ?_)
          refine S_list (T_val (v := (Value.bool false)) (x_move rfl) ?_)
          refine S_no (j := 18) (dj := 27) (b := false) rfl rfl rfl (by decide) ?_
          refine S_no (j := 18) (dj := 27) (b := false) rfl rfl rfl (by decide) ?_
          refine S_no (j := 18) (dj := 27) (b := false) rfl rfl rfl (by decide) ?_
          refine S_list (T_pickF (v := (Value.bool false)) rfl rfl ?_)
          refine S_list (T_val (v := (Value.bool false)) (x_assign rfl) ?_)
          refine wpList_nil ?_
          refine (X_then (hK2_ _ _ ?_))
          clear hK2_
          refine C_ret ?_
          refine R_any (v := (Value.bool false)) (run_results1 rfl rfl) ?_
          exact ⟨_, [], rfl, ⟨false, rfl, rfl, (fun h => by first | (cases h; done) | (have h1 := of_decide_eq_true h; have h2 := he5_ (by simp_all); exact ⟨by omega, by omega, by omega, by omega, by omega, h2⟩))⟩, S10_, H7_⟩
      · have c13_fp : ¬ (0 ≤ rev) := of_decide_eq_false c13_f
        refine S_no (j := 10) (dj := 19) (b := false) rfl rfl (congrArg Value.bool c13_f) (by decide) ?_
        refine S_no (j := 10) (dj := 19) (b := false) rfl rfl (congrArg Value.bool c13_f) (by decide) ?_
        refine S_list (T_pickF (v := (Value.bool false)) (congrArg Value.bool c13_f) rfl ?_)
        refine S_list (T_val (v := (Value.bool false)) (x_move rfl) ?_)
        refine S_no (j := 14) (dj := 23) (b := false) rfl rfl rfl (by decide) ?_
        refine S_no (j := 14) (dj := 23) (b := false) rfl rfl rfl (by decide) ?_
        refine S_list (T_pickF (v := (Value.bool false)) rfl rfl ?_)
        refine S_list (T_val (v := (Value.bool false)) (x_move rfl) ?_)
        refine S_no (j := 18) (dj := 27) (b := false) rfl rfl rfl (by decide) ?_
        refine S_no (j := 18) (dj := 27) (b := false) rfl rfl rfl (by decide) ?_
        refine S_no (j := 18) (dj := 27) (b := false) rfl rfl rfl (by decide) ?_
        refine S_list (T_pickF (v := (Value.bool false)) rfl rfl ?_)
        refine S_list (T_val (v := (Value.bool false)) (x_assign rfl) ?_)
        refine wpList_nil ?_
        refine (X_then (hK2_ _ _ ?_))
        clear hK2_
        refine C_ret ?_
        refine R_any (v := (Value.bool false)) (run_results1 rfl rfl) ?_
        exact ⟨_, [], rfl, ⟨false, rfl, rfl, (fun h => by first | (cases h; done) | (have h1 := of_decide_eq_true h; have h2 := he5_ (by simp_all); exact ⟨by omega, by omega, by omega, by omega, by omega, h2⟩))⟩, S10_, H7_⟩
    · have c12_fp : ¬ (-1 ≤ compact) := of_decide_eq_false c12_f
      refine S_no (j := 6) (dj := 15) (b := false) rfl rfl (congrArg Value.bool c12_f) (by decide) ?_
      refine S_no (j := 6) (dj := 15) (b := false) rfl rfl (congrArg Value.bool c12_f) (by decide) ?_
      refine S_list (T_pickF (v := (Value.bool false)) (congrArg Value.bool c12_f) rfl ?_)
      refine S_list (T_val (v := (Value.bool false)) (x_move rfl) ?_)
      refine S_no (j := 10) (dj := 19) (b := false) rfl rfl rfl (by decide) ?_
      refine S_no (j := 10) (dj := 19) (b := false) rfl rfl rfl (by decide) ?_
      refine S_list (T_pickF (v := (Value.bool false)) rfl rfl ?_)
      refine S_list (T_val (v := (Value.bool false)) (x_move rfl) ?_)
      refine S_no (j := 14) (dj := 23) (b := false) rfl rfl rfl (by decide) ?_
      refine S_no (j := 14) (dj := 23) (b := false) rfl rfl rfl (by decide) ?_
      refine S_list (T_pickF (v := (Value.bool false)) rfl rfl ?_)
      refine S_list (T_val (v := (Value.bool false)) (x_move rfl) ?_)
      refine S_no (j := 18) (dj := 27) (b := false) rfl rfl rfl (by decide) ?_
      refine S_no (j := 18) (dj := 27) (b := false) rfl rfl rfl (by decide) ?_
      refine S_no (j := 18) (dj := 27) (b := false) rfl rfl rfl (by decide) ?_
      refine S_list (T_pickF (v := (Value.bool false)) rfl rfl ?_)
      refine S_list (T_val (v := (Value.bool false)) (x_assign rfl) ?_)
      refine wpList_nil ?_
      refine (X_then (hK2_ _ _ ?_))
      clear hK2_
      refine C_ret ?_
      refine R_any (v := (Value.bool false)) (run_results1 rfl rfl) ?_
      exact ⟨_, [], rfl, ⟨false, rfl, rfl, (fun h => by first | (cases h; done) | (have h1 := of_decide_eq_true h; have h2 := he5_ (by simp_all); exact ⟨by omega, by omega, by omega, by omega, by omega, h2⟩))⟩, S10_, H7_⟩
  · skip
    refine S_no (j := 2) (dj := 11) (b := false) rfl rfl (congrArg Value.bool c11_f) (by decide) ?_
    refine S_no (j := 2) (dj := 11) (b := false) rfl rfl (congrArg Value.bool c11_f) (by decide) ?_
    refine S_list (T_pickF (v := (Value.bool false)) (congrArg Value.bool c11_f) rfl ?_)
    refine S_list (T_val (v := (Value.bool false)) (x_move rfl) ?_)
    refine S_no (j := 6) (dj := 15) (b := false) rfl rfl rfl (by decide) ?_
    refine S_no (j := 6) (dj := 15) (b := false) rfl rfl rfl (by decide) ?_
    refine S_list (T_pickF (v := (Value.bool false)) rfl rfl ?_)
    refine S_list (T_val (v := (Value.bool false)) (x_move rfl) ?_)
    refine S_no (j := 10) (dj := 19) (b := false) rfl rfl rfl (by decide) ?_
    refine S_no (j := 10) (dj := 19) (b := false) rfl rfl rfl (by decide) ?_
    refine S_list (T_pickF (v := (Value.bool false)) rfl rfl ?_)
    refine S_list (T_val (v := (Value.bool false)) (x_move rfl) ?_)
    refine S_no (j := 14) (dj := 23) (b := false) rfl rfl rfl (by decide) ?_
    refine S_no (j := 14) (dj := 23) (b := false) rfl rfl rfl (by decide) ?_
    refine S_list (T_pickF (v := (Value.bool false)) rfl rfl ?_)
    refine S_list (T_val (v := (Value.bool false)) (x_move rfl) ?_)
    refine S_no (j := 18) (dj := 27) (b := false) rfl rfl rfl (by decide) ?_
    refine S_no (j := 18) (dj := 27) (b := false) rfl rfl rfl (by decide) ?_
    refine S_no (j := 18) (dj := 27) (b := false) rfl rfl rfl (by decide) ?_
    refine S_list (T_pickF (v := (Value.bool false)) rfl rfl ?_)
    refine S_list (T_val (v := (Value.bool false)) (x_assign rfl) ?_)
    refine wpList_nil ?_
    refine (X_then (hK2_ _ _ ?_))
    clear hK2_
    refine C_ret ?_
    refine R_any (v := (Value.bool false)) (run_results1 rfl rfl) ?_
    exact ⟨_, [], rfl, ⟨false, rfl, rfl, (fun h => by first | (cases h; done) | (have h1 := of_decide_eq_true h; have h2 := he5_ (by simp_all); exact ⟨by omega, by omega, by omega, by omega, by omega, h2⟩))⟩, S10_, H7_⟩

set_option maxHeartbeats 400000 in
theorem lCounts (R : HP) (x : RW) (compact rev : Int) (vk : Value) (K : List RV) (hKs : RS R 2 vk K.length (K.flatMap RV.cells)) (q1 : K.length ≤ 1000) :
    Tri Try.prog 14 #[(Value.agg #[(Value.int .i64 x.rev_Main), (Value.int .i64 x.rev_Sub), (Value.bool x.gone), (Value.string x.kV_Key), (Value.string x.kV_Value), (Value.int .i64 x.kV_Create), (Value.int .i64 x.kV_Mod), (Value.int .i64 x.kV_Version), (Value.int .i64 x.kV_Lease)]), (Value.int .i64 compact), (Value.int .i64 rev), vk] R [] (fun v__ post__ => ∃ (b : Bool), v__ = (Value.bool b) ∧ post__ = [] ∧ (b = true → hcnt compact rev (K.map RV.pair) x)) := by
  refine Tri.into (n := 48) (al := [(Value.agg #[(Value.int .i64 x.rev_Main), (Value.int .i64 x.rev_Sub), (Value.bool x.gone), (Value.string x.kV_Key), (Value.string x.kV_Value), (Value.int .i64 x.kV_Create), (Value.int .i64 x.kV_Mod), (Value.int .i64 x.kV_Version), (Value.int .i64 x.kV_Lease)]), (Value.int .i64 compact), (Value.int .i64 rev), vk]) Try.func14 rfl Try.ntmps14 rfl rfl fun w F H => ?_
  replace H : Holds w (ro R :: F) := H
  refine C_seq (fun K1_ hK1_ => ?_)
  refine C_reg ?_
  refine S_list (T_box (v := (Value.agg #[(Value.int .i64 x.rev_Main), (Value.int .i64 x.rev_Sub), (Value.bool x.gone), (Value.string x.kV_Key), (Value.string x.kV_Value), (Value.int .i64 x.kV_Create), (Value.int .i64 x.kV_Mod), (Value.int .i64 x.kV_Version), (Value.int .i64 x.kV_Lease)])) rfl H ?_)
  intro b2_ w3_ S5_ H4_
  replace H4_ : Holds w3_ (cl b2_ 42 [(Value.int .i64 x.rev_Main), (Value.int .i64 x.rev_Sub), (Value.bool x.gone), (Value.string x.kV_Key), (Value.string x.kV_Value), (Value.int .i64 x.kV_Create), (Value.int .i64 x.kV_Mod), (Value.int .i64 x.kV_Version), (Value.int .i64 x.kV_Lease)] :: ro R :: F) := H4_
  have S6_ := Same.trans (Same.refl w) S5_
  refine S_list (T_val (v := (Value.bool false)) (x_assign rfl) ?_)
  refine wpList_nil ?_
  refine (X_then (hK1_ _ _ ?_))
  clear hK1_
  refine C_seq (fun K7_ hK7_ => ?_)
  refine C_seq (fun K8_ hK8_ => ?_)
  refine C_reg ?_
  refine S_list (T_val (v := (Value.pointer (some ⟨b2_, 0, none⟩))) (by kernel_rfl) ?_)
  refine S_list (T_val (v := (Value.pointer (some ⟨b2_, 0, none⟩))) (by kernel_rfl) ?_)
  refine S_list (T_val (v := (Value.int .i64 x.rev_Main)) (x_load1 rfl Try.underlying2 rfl ((Holds.rd H4_ 0 rfl) 0 (Value.int .i64 x.rev_Main) rfl)) ?_)
  refine S_list (T_val (v := (Value.int .i64 rev)) (x_move rfl) ?_)
  refine S_list (T_val (v := (Value.bool (decide (rev < x.rev_Main)))) (x_bin rfl rfl rfl) ?_)
  refine S_list (T_val (v := (Value.bool (decide (rev < x.rev_Main)))) (x_move rfl) ?_)
  rcases Bool.eq_false_or_eq_true (decide (rev < x.rev_Main)) with c9_t | c9_f
  · have c9_tp : rev < x.rev_Main := of_decide_eq_true c9_t
    refine S_no (j := 5) (dj := 16) (b := true) rfl rfl (congrArg Value.bool c9_t) (by decide) ?_
    refine S_no (j := 5) (dj := 16) (b := true) rfl rfl (congrArg Value.bool c9_t) (by decide) ?_
    refine S_no (j := 5) (dj := 16) (b := true) rfl rfl (congrArg Value.bool c9_t) (by decide) ?_
    refine S_noU (j := 8) (dj := 19) rfl rfl rfl ?_
    refine S_noU (j := 8) (dj := 19) rfl rfl rfl ?_
    refine S_noU (j := 8) (dj := 19) rfl rfl rfl ?_
    refine S_noU (j := 8) (dj := 19) rfl rfl rfl ?_
    refine S_noU (j := 8) (dj := 19) rfl rfl rfl ?_
    refine S_no (j := 5) (dj := 16) (b := true) rfl rfl (congrArg Value.bool c9_t) (by decide) ?_
    refine S_list (T_pickT (v := (Value.bool true)) (congrArg Value.bool c9_t) rfl ?_)
    refine wpList_nil ?_
    refine (X_then (hK8_ _ _ ?_))
    clear hK8_
    refine C_condT rfl ?_
    refine C_seq (fun K10_ hK10_ => ?_)
    refine C_reg ?_
    refine S_list (T_val (v := (Value.bool false)) (x_assign rfl) ?_)
    refine wpList_nil ?_
    refine (X_then (hK10_ _ _ ?_))
    clear hK10_
    refine C_ret (X_thenR ?_)
    refine R_any (v := (Value.bool false)) (run_results1 rfl rfl) ?_
    have H11_ : Holds w3_ (ro R :: F) := (Holds.erase (Holds.bring H4_ 1 rfl) 1)
    exact ⟨_, [], rfl, ⟨false, rfl, rfl, (fun h => by cases h)⟩, S6_, H11_⟩
  · have c9_fp : ¬ (rev < x.rev_Main) := of_decide_eq_false c9_f
    refine S_yes (j := 5) (dj := 16) (b := false) rfl rfl (congrArg Value.bool c9_f) (T_val (v := (Value.pointer (some ⟨b2_, 2, none⟩))) (by kernel_rfl) ?_)
    refine S_yes (j := 5) (dj := 16) (b := false) rfl rfl (congrArg Value.bool c9_f) (T_val (v := (Value.bool x.gone)) (x_load1 rfl Try.underlying4 rfl ((Holds.rd H4_ 0 rfl) 2 (Value.bool x.gone) rfl)) ?_)
    refine S_yes (j := 5) (dj := 16) (b := false) rfl rfl (congrArg Value.bool c9_f) (T_val (v := (Value.bool x.gone)) (x_move rfl) ?_)
    rcases Bool.eq_false_or_eq_true (x.gone) with c12_t | c12_f
    · skip
      refine S_yes (j := 8) (dj := 19) (b := true) rfl rfl (congrArg Value.bool c12_t) (T_val (v := (Value.pointer (some ⟨b2_, 0, none⟩))) (by kernel_rfl) ?_)
      refine S_yes (j := 8) (dj := 19) (b := true) rfl rfl (congrArg Value.bool c12_t) (T_val (v := (Value.pointer (some ⟨b2_, 0, none⟩))) (by kernel_rfl) ?_)
      refine S_yes (j := 8) (dj := 19) (b := true) rfl rfl (congrArg Value.bool c12_t) (T_val (v := (Value.int .i64 x.rev_Main)) (x_load1 rfl Try.underlying2 rfl ((Holds.rd H4_ 0 rfl) 0 (Value.int .i64 x.rev_Main) rfl)) ?_)
      refine S_yes (j := 8) (dj := 19) (b := true) rfl rfl (congrArg Value.bool c12_t) (T_val (v := (Value.int .i64 compact)) (x_move rfl) ?_)
      refine S_yes (j := 8) (dj := 19) (b := true) rfl rfl (congrArg Value.bool c12_t) (T_val (v := (Value.bool (decide (x.rev_Main = compact)))) (x_bin rfl rfl rfl) ?_)
      refine S_yes (j := 5) (dj := 16) (b := false) rfl rfl (congrArg Value.bool c9_f) (T_pickT (v := (Value.bool (decide (x.rev_Main = compact)))) (congrArg Value.bool c12_t) rfl ?_)
      refine S_list (T_pickF (v := (Value.bool (decide (x.rev_Main = compact)))) (congrArg Value.bool c9_f) rfl ?_)
      refine wpList_nil ?_
      refine (X_then (hK8_ _ _ ?_))
      clear hK8_
      refine C_cond (b := decide (x.rev_Main = compact)) rfl (fun c13_t => ?_) (fun c13_f => ?_)
      · have c13_tp : x.rev_Main = compact := of_decide_eq_true c13_t
        refine C_seq (fun K14_ hK14_ => ?_)
        refine C_reg ?_
        refine S_list (T_val (v := (Value.bool false)) (x_assign rfl) ?_)
        refine wpList_nil ?_
        refine (X_then (hK14_ _ _ ?_))
        clear hK14_
        refine C_ret (X_thenR ?_)
        refine R_any (v := (Value.bool false)) (run_results1 rfl rfl) ?_
        have H15_ : Holds w3_ (ro R :: F) := (Holds.erase (Holds.bring H4_ 1 rfl) 1)
        exact ⟨_, [], rfl, ⟨false, rfl, rfl, (fun h => by cases h)⟩, S6_, H15_⟩
      · have c13_fp : ¬ (x.rev_Main = compact) := of_decide_eq_false c13_f
        refine C_skip (X_then (hK7_ _ _ ?_))
        clear hK7_
        refine C_seq (fun K16_ hK16_ => ?_)
        refine C_seq (fun K17_ hK17_ => ?_)
        refine C_reg ?_
        refine S_list (T_val (v := (Value.pointer (some ⟨b2_, 0, none⟩))) (by kernel_rfl) ?_)
        refine S_list (T_val (v := (Value.pointer (some ⟨b2_, 0, none⟩))) (by kernel_rfl) ?_)
        refine S_list (T_val (v := (Value.int .i64 x.rev_Main)) (x_load1 rfl Try.underlying2 rfl ((Holds.rd H4_ 0 rfl) 0 (Value.int .i64 x.rev_Main) rfl)) ?_)
        refine S_list (T_val (v := (Value.int .i64 compact)) (x_move rfl) ?_)
        refine S_list (T_val (v := (Value.bool (decide (compact < x.rev_Main)))) (x_bin rfl rfl rfl) ?_)
        refine S_list (T_val (v := (Value.bool (decide (compact < x.rev_Main)))) (x_move rfl) ?_)
        rcases Bool.eq_false_or_eq_true (decide (compact < x.rev_Main)) with c18_t | c18_f
        · have c18_tp : compact < x.rev_Main := of_decide_eq_true c18_t
          refine S_no (j := 5) (dj := 32) (b := true) rfl rfl (congrArg Value.bool c18_t) (by decide) ?_
          refine S_no (j := 5) (dj := 32) (b := true) rfl rfl (congrArg Value.bool c18_t) (by decide) ?_
          refine S_no (j := 5) (dj := 32) (b := true) rfl rfl (congrArg Value.bool c18_t) (by decide) ?_
          refine S_list (T_pickT (v := (Value.bool true)) (congrArg Value.bool c18_t) rfl ?_)
          refine wpList_nil ?_
          refine (X_then (hK17_ _ _ ?_))
          clear hK17_
          refine C_condT rfl ?_
          refine C_seq (fun K19_ hK19_ => ?_)
          refine C_reg ?_
          refine S_list (T_val (v := (Value.bool true)) (x_assign rfl) ?_)
          refine wpList_nil ?_
          refine (X_then (hK19_ _ _ ?_))
          clear hK19_
          refine C_ret (X_thenR ?_)
          refine R_any (v := (Value.bool true)) (run_results1 rfl rfl) ?_
          have H20_ : Holds w3_ (ro R :: F) := (Holds.erase (Holds.bring H4_ 1 rfl) 1)
          exact ⟨_, [], rfl, ⟨true, rfl, rfl, (fun h => ⟨by omega, by first | exact .inl (by omega) | exact .inr (.inl (by rw [List.eq_nil_of_length_eq_zero (by omega : K.length = 0)]; rfl)), fun hh => by simp_all⟩)⟩, S6_, H20_⟩
        · have c18_fp : ¬ (compact < x.rev_Main) := of_decide_eq_false c18_f
          refine S_yes (j := 5) (dj := 32) (b := false) rfl rfl (congrArg Value.bool c18_f) (T_val (v := vk) (x_move rfl) ?_)
          refine S_yes (j := 5) (dj := 32) (b := false) rfl rfl (congrArg Value.bool c18_f) (T_val (v := (Value.int .i64 (K.length : Int))) (x_lenRS rfl hKs Try.underlying33) ?_)
          refine S_yes (j := 5) (dj := 32) (b := false) rfl rfl (congrArg Value.bool c18_f) (T_val (v := (Value.bool (decide ((K.length : Int) = 0)))) (x_bin rfl rfl rfl) ?_)
          refine S_list (T_pickF (v := (Value.bool (decide ((K.length : Int) = 0)))) (congrArg Value.bool c18_f) rfl ?_)
          refine wpList_nil ?_
          refine (X_then (hK17_ _ _ ?_))
          clear hK17_
          refine C_cond (b := decide ((K.length : Int) = 0)) rfl (fun c21_t => ?_) (fun c21_f => ?_)
          · have c21_tp : (K.length : Int) = 0 := of_decide_eq_true c21_t
            refine C_seq (fun K22_ hK22_ => ?_)
            refine C_reg ?_
            refine S_list (T_val (v := (Value.bool true)) (x_assign rfl) ?_)
            refine wpList_nil ?_
            refine (X_then (hK22_ _ _ ?_))
            clear hK22_
            refine C_ret (X_thenR ?_)
            refine R_any (v := (Value.bool true)) (run_results1 rfl rfl) ?_
            have H23_ : Holds w3_ (ro R :: F) := (Holds.erase (Holds.bring H4_ 1 rfl) 1)
            exact ⟨_, [], rfl, ⟨true, rfl, rfl, (fun h => ⟨by omega, by first | exact .inl (by omega) | exact .inr (.inl (by rw [List.eq_nil_of_length_eq_zero (by omega : K.length = 0)]; rfl)), fun hh => by simp_all⟩)⟩, S6_, H23_⟩
          · have c21_fp : ¬ ((K.length : Int) = 0) := of_decide_eq_false c21_f
            refine C_skip (X_then (hK16_ _ _ ?_))
            clear hK16_
            refine C_seq (fun K24_ hK24_ => ?_)
            refine C_seq (fun K25_ hK25_ => ?_)
            refine C_reg ?_
            refine S_list (T_val (v := vk) (x_move rfl) ?_)
            refine S_list (T_val (v := (Value.int .i64 (K.length : Int))) (x_lenRS rfl hKs Try.underlying33) ?_)
            refine S_list (T_val (v := (Value.int .i64 0)) (x_move rfl) ?_)
            refine wpList_nil ?_
            refine (X_then (hK25_ _ _ ?_))
            clear hK25_
            refine C_block ?_
            refine C_loop (γ := Nat × Bool) (fun x__ a__ w1__ => match x__ with | ⟨k, t8_v⟩ => ∃ h : Env, a__ = mkA 48 (upd (upd (upd (upd (upd h 4 (Value.pointer (some ⟨b2_, 0, none⟩))) 8 (Value.bool t8_v)) 37 vk) 38 (Value.int .i64 (K.length : Int))) 39 (Value.int .i64 (k : Int))) [] ∧ Holds w1__ (cl b2_ 42 [(Value.int .i64 x.rev_Main), (Value.int .i64 x.rev_Sub), (Value.bool x.gone), (Value.string x.kV_Key), (Value.string x.kV_Value), (Value.int .i64 x.kV_Create), (Value.int .i64 x.kV_Mod), (Value.int .i64 x.kV_Version), (Value.int .i64 x.kV_Lease)] :: ro R :: F) ∧ Same w w1__ ∧ (k ≤ K.length)) (fun x__ => match x__ with | ⟨k, t8_v⟩ => K.length - k) (⟨0, false⟩) ⟨_, congrArg (fun e => mkA 48 e []) (ch (ch (ch (ch (ch rfl rfl) rfl) rfl) rfl) (congrArg (Value.int .i64) ((by first | rfl | omega | (simp; done) | (simp; omega)) : 0 = (0 : Int)))), H4_, S6_, (by first | assumption | omega | exact rfl)⟩ ?_
            rintro ⟨k, t8_v⟩ _ w26_ ⟨h, rfl, H27_, S28_, hk⟩
            refine C_seq (fun K29_ hK29_ => ?_)
            refine C_reg ?_
            refine S_list (T_val (v := (Value.bool (decide ((k : Int) < (K.length : Int))))) (x_bin rfl rfl rfl) ?_)
            refine wpList_nil ?_
            refine (X_then (hK29_ _ _ ?_))
            clear hK29_
            refine C_seq (fun K30_ hK30_ => ?_)
            refine C_cond (b := decide ((k : Int) < (K.length : Int))) rfl (fun c31_t => ?_) (fun c31_f => ?_)
            · have c31_tp : (k : Int) < (K.length : Int) := of_decide_eq_true c31_t
              refine C_skip (X_then (hK30_ _ _ ?_))
              clear hK30_
              refine C_seq (fun K32_ hK32_ => ?_)
              refine C_block ?_
              refine C_seq (fun K33_ hK33_ => ?_)
              refine C_reg ?_
              obtain ⟨x34_, hx35_, hm36_⟩ := elem_at K k (by omega)
              refine S_list (T_val (v := (Value.pointer (some ⟨(sb vk), so vk + (k * 2 + 0), none⟩))) (x_idxRS (v := vk) rfl hKs rfl Try.underlying33 z38 (by omega) (by omega) (by omega : _ = k) rfl) ?_)
              refine S_list (T_val (v := (Value.agg #[(Value.int .i64 x34_.main), (Value.int .i64 x34_.sub)])) (x_loadN (vs := [(Value.int .i64 x34_.main), (Value.int .i64 x34_.sub)]) rfl Try.underlying38 rfl z38 rfl (RC.cells (RS.rc hKs) (Holds.ro_at H27_ 1 rfl) (k * 2 + 0) (fm_cells RV.len hx35_ (i := 0) rfl))) ?_)
              refine S_list (T_alloc z38 H27_ ?_)
              intro b37_ w38_ S40_ H39_
              replace H39_ : Holds w38_ (cl b37_ 38 [(Value.int .i64 0), (Value.int .i64 0)] :: cl b2_ 42 [(Value.int .i64 x.rev_Main), (Value.int .i64 x.rev_Sub), (Value.bool x.gone), (Value.string x.kV_Key), (Value.string x.kV_Value), (Value.int .i64 x.kV_Create), (Value.int .i64 x.kV_Mod), (Value.int .i64 x.kV_Version), (Value.int .i64 x.kV_Lease)] :: ro R :: F) := H39_
              have S41_ := Same.trans S28_ S40_
              refine S_list0 (T_storeN (vs := [(Value.int .i64 x34_.main), (Value.int .i64 x34_.sub)]) rfl rfl z38 rfl (by simp [Value.oneCell']) H39_ 0 rfl (Nat.le_of_ble_eq_true (by rfl)) ?_)
              intro w42_ S44_ H43_
              replace H43_ : Holds w42_ (cl b37_ 38 [(Value.int .i64 x34_.main), (Value.int .i64 x34_.sub)] :: cl b2_ 42 [(Value.int .i64 x.rev_Main), (Value.int .i64 x.rev_Sub), (Value.bool x.gone), (Value.string x.kV_Key), (Value.string x.kV_Value), (Value.int .i64 x.kV_Create), (Value.int .i64 x.kV_Mod), (Value.int .i64 x.kV_Version), (Value.int .i64 x.kV_Lease)] :: ro R :: F) := H43_
              have S45_ := Same.trans S41_ S44_
              refine wpList_nil ?_
              refine (X_then (hK33_ _ _ ?_))
              clear hK33_
              refine C_seq (fun K46_ hK46_ => ?_)
              refine C_reg ?_
              refine S_list (T_val (v := (Value.agg #[(Value.int .i64 x34_.main), (Value.int .i64 x34_.sub)])) (x_loadN (vs := [(Value.int .i64 x34_.main), (Value.int .i64 x34_.sub)]) rfl Try.underlying38 rfl z38 rfl (Rd.cells (Holds.rd H43_ 0 rfl) 0 rfl)) ?_)
              refine S_list (T_val (v := (Value.pointer (some ⟨b2_, 0, none⟩))) (by kernel_rfl) ?_)
              refine S_list (T_val (v := (Value.agg #[(Value.int .i64 x.rev_Main), (Value.int .i64 x.rev_Sub)])) (x_loadN (vs := [(Value.int .i64 x.rev_Main), (Value.int .i64 x.rev_Sub)]) rfl Try.underlying38 rfl z38 rfl (Rd.cells (Holds.rd H43_ 1 rfl) 0 rfl)) ?_)
              refine S_list (T_val (v := (Value.bool ((decide (x34_.main = x.rev_Main)) && ((decide (x34_.sub = x.rev_Sub)) && (true))))) (x_eqS rfl rfl (by kernel_rfl) (eq_struct Try.underlying38 (by kernel_rfl) (eqf_cons rfl (run_part1 Try.underlying2 rfl rfl) (run_part1 Try.underlying2 rfl rfl) (eq_int Try.underlying2) (eqf_cons rfl (run_part1 Try.underlying2 rfl rfl) (run_part1 Try.underlying2 rfl rfl) (eq_int Try.underlying2) (eqf_nil))))) ?_)
              refine wpList_nil ?_
              refine (X_then (hK46_ _ _ ?_))
              clear hK46_
              refine C_cond (b := (decide (x34_.main = x.rev_Main)) && ((decide (x34_.sub = x.rev_Sub)) && (true))) rfl (fun c47_t => ?_) (fun c47_f => ?_)
              · skip
                refine C_seq (fun K48_ hK48_ => ?_)
                refine C_reg ?_
                refine S_list (T_val (v := (Value.bool true)) (x_assign rfl) ?_)
                refine wpList_nil ?_
                refine (X_then (hK48_ _ _ ?_))
                clear hK48_
                refine C_ret (X_blkR (X_thenR (X_thenR (X_blkR (X_thenR ?_)))))
                refine R_any (v := (Value.bool true)) (run_results1 rfl rfl) ?_
                have H49_ : Holds w42_ (ro R :: F) := (Holds.erase (Holds.erase (Holds.bring H43_ 2 rfl) 1) 1)
                exact ⟨_, [], rfl, ⟨true, rfl, rfl, (fun h => ⟨by omega, by first | exact .inl (by omega) | exact .inr (.inl (by rw [List.eq_nil_of_length_eq_zero (by omega : K.length = 0)]; rfl)) | exact .inr (.inr (List.mem_map.2 ⟨x34_, hm36_, by simp_all [RV.pair]⟩)), fun hh => by simp_all⟩)⟩, S45_, H49_⟩
              · skip
                refine C_skip (X_blkN (X_then (hK32_ _ _ ?_)))
                clear hK32_
                refine C_reg ?_
                refine S_list (T_val (v := (Value.int .i64 ((k : Int) + 1))) (x_bin rfl rfl (ib_add (IntWalk.i64_in _ (by omega)))) ?_)
                refine S_list (T_val (v := (Value.int .i64 ((k : Int) + 1))) (x_move rfl) ?_)
                refine wpList_nil ?_
                refine (X_then ?_)
                have H50_ : Holds w42_ (cl b2_ 42 [(Value.int .i64 x.rev_Main), (Value.int .i64 x.rev_Sub), (Value.bool x.gone), (Value.string x.kV_Key), (Value.string x.kV_Value), (Value.int .i64 x.kV_Create), (Value.int .i64 x.kV_Mod), (Value.int .i64 x.kV_Version), (Value.int .i64 x.kV_Lease)] :: ro R :: F) := (Holds.erase (Holds.bring (Holds.bring H43_ 2 rfl) 2 rfl) 2)
                exact ⟨⟨k + 1, t8_v⟩, ⟨_, congrArg (fun e => mkA 48 e []) (ch (ch (ch (ch (ch rfl rfl) rfl) rfl) rfl) (congrArg (Value.int .i64) ((by first | rfl | omega | (simp; done) | (simp; omega)) : (k : Int) + 1 = ((k + 1 : Nat) : Int)))), H50_, S45_, (by first | assumption | omega | exact rfl)⟩, by first | omega | (dsimp only; omega) | (simp; omega)⟩
            · have c31_fp : ¬ ((k : Int) < (K.length : Int)) := of_decide_eq_false c31_f
              refine C_exit (X_thenX (X_thenX (X_blkHit ?_)))
              refine (X_then (hK24_ _ _ ?_))
              clear hK24_
              refine C_seq (fun K51_ hK51_ => ?_)
              refine C_reg ?_
              refine S_list (T_val (v := (Value.bool false)) (x_assign rfl) ?_)
              refine wpList_nil ?_
              refine (X_then (hK51_ _ _ ?_))
              clear hK51_
              refine C_ret ?_
              refine R_any (v := (Value.bool false)) (run_results1 rfl rfl) ?_
              have H52_ : Holds w26_ (ro R :: F) := (Holds.erase (Holds.bring H27_ 1 rfl) 1)
              exact ⟨_, [], rfl, ⟨false, rfl, rfl, (fun h => by cases h)⟩, S28_, H52_⟩
    · skip
      refine S_no (j := 8) (dj := 19) (b := false) rfl rfl (congrArg Value.bool c12_f) (by decide) ?_
      refine S_no (j := 8) (dj := 19) (b := false) rfl rfl (congrArg Value.bool c12_f) (by decide) ?_
      refine S_no (j := 8) (dj := 19) (b := false) rfl rfl (congrArg Value.bool c12_f) (by decide) ?_
      refine S_no (j := 8) (dj := 19) (b := false) rfl rfl (congrArg Value.bool c12_f) (by decide) ?_
      refine S_no (j := 8) (dj := 19) (b := false) rfl rfl (congrArg Value.bool c12_f) (by decide) ?_
      refine S_yes (j := 5) (dj := 16) (b := false) rfl rfl (congrArg Value.bool c9_f) (T_pickF (v := (Value.bool false)) (congrArg Value.bool c12_f) rfl ?_)
      refine S_list (T_pickF (v := (Value.bool false)) (congrArg Value.bool c9_f) rfl ?_)
      refine wpList_nil ?_
      refine (X_then (hK8_ _ _ ?_))
      clear hK8_
      refine C_condF rfl ?_
      refine C_skip (X_then (hK7_ _ _ ?_))
      clear hK7_
      refine C_seq (fun K53_ hK53_ => ?_)
      refine C_seq (fun K54_ hK54_ => ?_)
      refine C_reg ?_
      refine S_list (T_val (v := (Value.pointer (some ⟨b2_, 0, none⟩))) (by kernel_rfl) ?_)
      refine S_list (T_val (v := (Value.pointer (some ⟨b2_, 0, none⟩))) (by kernel_rfl) ?_)
      refine S_list (T_val (v := (Value.int .i64 x.rev_Main)) (x_load1 rfl Try.underlying2 rfl ((Holds.rd H4_ 0 rfl) 0 (Value.int .i64 x.rev_Main) rfl)) ?_)
      refine S_list (T_val (v := (Value.int .i64 compact)) (x_move rfl) ?_)
      refine S_list (T_val (v := (Value.bool (decide (compact < x.rev_Main)))) (x_bin rfl rfl rfl) ?_)
      refine S_list (T_val (v := (Value.bool (decide (compact < x.rev_Main)))) (x_move rfl) ?_)
      rcases Bool.eq_false_or_eq_true (decide (compact < x.rev_Main)) with c55_t | c55_f
      · have c55_tp : compact < x.rev_Main := of_decide_eq_true c55_t
        refine S_no (j := 5) (dj := 32) (b := true) rfl rfl (congrArg Value.bool c55_t) (by decide) ?_
        refine S_no (j := 5) (dj := 32) (b := true) rfl rfl (congrArg Value.bool c55_t) (by decide) ?_
        refine S_no (j := 5) (dj := 32) (b := true) rfl rfl (congrArg Value.bool c55_t) (by decide) ?_
        refine S_list (T_pickT (v := (Value.bool true)) (congrArg Value.bool c55_t) rfl ?_)
        refine wpList_nil ?_
        refine (X_then (hK54_ _ _ ?_))
        clear hK54_
        refine C_condT rfl ?_
        refine C_seq (fun K56_ hK56_ => ?_)
        refine C_reg ?_
        refine S_list (T_val (v := (Value.bool true)) (x_assign rfl) ?_)
        refine wpList_nil ?_
        refine (X_then (hK56_ _ _ ?_))
        clear hK56_
        refine C_ret (X_thenR ?_)
        refine R_any (v := (Value.bool true)) (run_results1 rfl rfl) ?_
        have H57_ : Holds w3_ (ro R :: F) := (Holds.erase (Holds.bring H4_ 1 rfl) 1)
        exact ⟨_, [], rfl, ⟨true, rfl, rfl, (fun h => ⟨by omega, by first | exact .inl (by omega) | exact .inr (.inl (by rw [List.eq_nil_of_length_eq_zero (by omega : K.length = 0)]; rfl)) | exact .inr (.inr (List.mem_map.2 ⟨x34_, hm36_, by simp_all [RV.pair]⟩)), fun hh => by simp_all⟩)⟩, S6_, H57_⟩
      · have c55_fp : ¬ (compact < x.rev_Main) := of_decide_eq_false c55_f
        refine S_yes (j := 5) (dj := 32) (b := false) rfl rfl (congrArg Value.bool c55_f) (T_val (v := vk) (x_move rfl) ?_)
        refine S_yes (j := 5) (dj := 32) (b := false) rfl rfl (congrArg Value.bool c55_f) (T_val (v := (Value.int .i64 (K.length : Int))) (x_lenRS rfl hKs Try.underlying33) ?_)
        refine S_yes (j := 5) (dj := 32) (b := false) rfl rfl (congrArg Value.bool c55_f) (T_val (v := (Value.bool (decide ((K.length : Int) = 0)))) (x_bin rfl rfl rfl) ?_)
        refine S_list (T_pickF (v := (Value.bool (decide ((K.length : Int) = 0)))) (congrArg Value.bool c55_f) rfl ?_)
        refine wpList_nil ?_
        refine (X_then (hK54_ _ _ ?_))
        clear hK54_
        refine C_cond (b := decide ((K.length : Int) = 0)) rfl (fun c58_t => ?_) (fun c58_f => ?_)
        · have c58_tp : (K.length : Int) = 0 := of_decide_eq_true c58_t
          refine C_seq (fun K59_ hK59_ => ?_)
          refine C_reg ?_
          refine S_list (T_val (v := (Value.bool true)) (x_assign rfl) ?_)
          refine wpList_nil ?_
          refine (X_then (hK59_ _ _ ?_))
          clear hK59_
          refine C_ret (X_thenR ?_)
          refine R_any (v := (Value.bool true)) (run_results1 rfl rfl) ?_
          have H60_ : Holds w3_ (ro R :: F) := (Holds.erase (Holds.bring H4_ 1 rfl) 1)
          exact ⟨_, [], rfl, ⟨true, rfl, rfl, (fun h => ⟨by omega, by first | exact .inl (by omega) | exact .inr (.inl (by rw [List.eq_nil_of_length_eq_zero (by omega : K.length = 0)]; rfl)) | exact .inr (.inr (List.mem_map.2 ⟨x34_, hm36_, by simp_all [RV.pair]⟩)), fun hh => by simp_all⟩)⟩, S6_, H60_⟩
        · have c58_fp : ¬ ((K.length : Int) = 0) := of_decide_eq_false c58_f
          refine C_skip (X_then (hK53_ _ _ ?_))
          clear hK53_
          refine C_seq (fun K61_ hK61_ => ?_)
          refine C_seq (fun K62_ hK62_ => ?_)
          refine C_reg ?_
          refine S_list (T_val (v := vk) (x_move rfl) ?_)
          refine S_list (T_val (v := (Value.int .i64 (K.length : Int))) (x_lenRS rfl hKs Try.underlying33) ?_)
          refine S_list (T_val (v := (Value.int .i64 0)) (x_move rfl) ?_)
          refine wpList_nil ?_
          refine (X_then (hK62_ _ _ ?_))
          clear hK62_
          refine C_block ?_
          refine C_loop (γ := Nat × Bool) (fun x__ a__ w1__ => match x__ with | ⟨k, t8_v⟩ => ∃ h : Env, a__ = mkA 48 (upd (upd (upd (upd (upd h 4 (Value.pointer (some ⟨b2_, 0, none⟩))) 8 (Value.bool t8_v)) 37 vk) 38 (Value.int .i64 (K.length : Int))) 39 (Value.int .i64 (k : Int))) [] ∧ Holds w1__ (cl b2_ 42 [(Value.int .i64 x.rev_Main), (Value.int .i64 x.rev_Sub), (Value.bool x.gone), (Value.string x.kV_Key), (Value.string x.kV_Value), (Value.int .i64 x.kV_Create), (Value.int .i64 x.kV_Mod), (Value.int .i64 x.kV_Version), (Value.int .i64 x.kV_Lease)] :: ro R :: F) ∧ Same w w1__ ∧ (k ≤ K.length)) (fun x__ => match x__ with | ⟨k, t8_v⟩ => K.length - k) (⟨0, false⟩) ⟨_, congrArg (fun e => mkA 48 e []) (ch (ch (ch (ch (ch rfl rfl) rfl) rfl) rfl) (congrArg (Value.int .i64) ((by first | rfl | omega | (simp; done) | (simp; omega)) : 0 = (0 : Int)))), H4_, S6_, (by first | assumption | omega | exact rfl)⟩ ?_
          rintro ⟨k, t8_v⟩ _ w63_ ⟨h, rfl, H64_, S65_, hk⟩
          refine C_seq (fun K66_ hK66_ => ?_)
          refine C_reg ?_
          refine S_list (T_val (v := (Value.bool (decide ((k : Int) < (K.length : Int))))) (x_bin rfl rfl rfl) ?_)
          refine wpList_nil ?_
          refine (X_then (hK66_ _ _ ?_))
          clear hK66_
          refine C_seq (fun K67_ hK67_ => ?_)
          refine C_cond (b := decide ((k : Int) < (K.length : Int))) rfl (fun c68_t => ?_) (fun c68_f => ?_)
          · have c68_tp : (k : Int) < (K.length : Int) := of_decide_eq_true c68_t
            refine C_skip (X_then (hK67_ _ _ ?_))
            clear hK67_
            refine C_seq (fun K69_ hK69_ => ?_)
            refine C_block ?_
            refine C_seq (fun K70_ hK70_ => ?_)
            refine C_reg ?_
            obtain ⟨x71_, hx72_, hm73_⟩ := elem_at K k (by omega)
            refine S_list (T_val (v := (Value.pointer (some ⟨(sb vk), so vk + (k * 2 + 0), none⟩))) (x_idxRS (v := vk) rfl hKs rfl Try.underlying33 z38 (by omega) (by omega) (by omega : _ = k) rfl) ?_)
            refine S_list (T_val (v := (Value.agg #[(Value.int .i64 x71_.main), (Value.int .i64 x71_.sub)])) (x_loadN (vs := [(Value.int .i64 x71_.main), (Value.int .i64 x71_.sub)]) rfl Try.underlying38 rfl z38 rfl (RC.cells (RS.rc hKs) (Holds.ro_at H64_ 1 rfl) (k * 2 + 0) (fm_cells RV.len hx72_ (i := 0) rfl))) ?_)
            refine S_list (T_alloc z38 H64_ ?_)
            intro b74_ w75_ S77_ H76_
            replace H76_ : Holds w75_ (cl b74_ 38 [(Value.int .i64 0), (Value.int .i64 0)] :: cl b2_ 42 [(Value.int .i64 x.rev_Main), (Value.int .i64 x.rev_Sub), (Value.bool x.gone), (Value.string x.kV_Key), (Value.string x.kV_Value), (Value.int .i64 x.kV_Create), (Value.int .i64 x.kV_Mod), (Value.int .i64 x.kV_Version), (Value.int .i64 x.kV_Lease)] :: ro R :: F) := H76_
            have S78_ := Same.trans S65_ S77_
            refine S_list0 (T_storeN (vs := [(Value.int .i64 x71_.main), (Value.int .i64 x71_.sub)]) rfl rfl z38 rfl (by simp [Value.oneCell']) H76_ 0 rfl (Nat.le_of_ble_eq_true (by rfl)) ?_)
            intro w79_ S81_ H80_
            replace H80_ : Holds w79_ (cl b74_ 38 [(Value.int .i64 x71_.main), (Value.int .i64 x71_.sub)] :: cl b2_ 42 [(Value.int .i64 x.rev_Main), (Value.int .i64 x.rev_Sub), (Value.bool x.gone), (Value.string x.kV_Key), (Value.string x.kV_Value), (Value.int .i64 x.kV_Create), (Value.int .i64 x.kV_Mod), (Value.int .i64 x.kV_Version), (Value.int .i64 x.kV_Lease)] :: ro R :: F) := H80_
            have S82_ := Same.trans S78_ S81_
            refine wpList_nil ?_
            refine (X_then (hK70_ _ _ ?_))
            clear hK70_
            refine C_seq (fun K83_ hK83_ => ?_)
            refine C_reg ?_
            refine S_list (T_val (v := (Value.agg #[(Value.int .i64 x71_.main), (Value.int .i64 x71_.sub)])) (x_loadN (vs := [(Value.int .i64 x71_.main), (Value.int .i64 x71_.sub)]) rfl Try.underlying38 rfl z38 rfl (Rd.cells (Holds.rd H80_ 0 rfl) 0 rfl)) ?_)
            refine S_list (T_val (v := (Value.pointer (some ⟨b2_, 0, none⟩))) (by kernel_rfl) ?_)
            refine S_list (T_val (v := (Value.agg #[(Value.int .i64 x.rev_Main), (Value.int .i64 x.rev_Sub)])) (x_loadN (vs := [(Value.int .i64 x.rev_Main), (Value.int .i64 x.rev_Sub)]) rfl Try.underlying38 rfl z38 rfl (Rd.cells (Holds.rd H80_ 1 rfl) 0 rfl)) ?_)
            refine S_list (T_val (v := (Value.bool ((decide (x71_.main = x.rev_Main)) && ((decide (x71_.sub = x.rev_Sub)) && (true))))) (x_eqS rfl rfl (by kernel_rfl) (eq_struct Try.underlying38 (by kernel_rfl) (eqf_cons rfl (run_part1 Try.underlying2 rfl rfl) (run_part1 Try.underlying2 rfl rfl) (eq_int Try.underlying2) (eqf_cons rfl (run_part1 Try.underlying2 rfl rfl) (run_part1 Try.underlying2 rfl rfl) (eq_int Try.underlying2) (eqf_nil))))) ?_)
            refine wpList_nil ?_
            refine (X_then (hK83_ _ _ ?_))
            clear hK83_
            refine C_cond (b := (decide (x71_.main = x.rev_Main)) && ((decide (x71_.sub = x.rev_Sub)) && (true))) rfl (fun c84_t => ?_) (fun c84_f => ?_)
            · skip
              refine C_seq (fun K85_ hK85_ => ?_)
              refine C_reg ?_
              refine S_list (T_val (v := (Value.bool true)) (x_assign rfl) ?_)
              refine wpList_nil ?_
              refine (X_then (hK85_ _ _ ?_))
              clear hK85_
              refine C_ret (X_blkR (X_thenR (X_thenR (X_blkR (X_thenR ?_)))))
              refine R_any (v := (Value.bool true)) (run_results1 rfl rfl) ?_
              have H86_ : Holds w79_ (ro R :: F) := (Holds.erase (Holds.erase (Holds.bring H80_ 2 rfl) 1) 1)
              exact ⟨_, [], rfl, ⟨true, rfl, rfl, (fun h => ⟨by omega, by first | exact .inl (by omega) | exact .inr (.inl (by rw [List.eq_nil_of_length_eq_zero (by omega : K.length = 0)]; rfl)) | exact .inr (.inr (List.mem_map.2 ⟨x71_, hm73_, by simp_all [RV.pair]⟩)), fun hh => by simp_all⟩)⟩, S82_, H86_⟩
            · skip
              refine C_skip (X_blkN (X_then (hK69_ _ _ ?_)))
              clear hK69_
              refine C_reg ?_
              refine S_list (T_val (v := (Value.int .i64 ((k : Int) + 1))) (x_bin rfl rfl (ib_add (IntWalk.i64_in _ (by omega)))) ?_)
              refine S_list (T_val (v := (Value.int .i64 ((k : Int) + 1))) (x_move rfl) ?_)
              refine wpList_nil ?_
              refine (X_then ?_)
              have H87_ : Holds w79_ (cl b2_ 42 [(Value.int .i64 x.rev_Main), (Value.int .i64 x.rev_Sub), (Value.bool x.gone), (Value.string x.kV_Key), (Value.string x.kV_Value), (Value.int .i64 x.kV_Create), (Value.int .i64 x.kV_Mod), (Value.int .i64 x.kV_Version), (Value.int .i64 x.kV_Lease)] :: ro R :: F) := (Holds.erase (Holds.bring (Holds.bring H80_ 2 rfl) 2 rfl) 2)
              exact ⟨⟨k + 1, t8_v⟩, ⟨_, congrArg (fun e => mkA 48 e []) (ch (ch (ch (ch (ch rfl rfl) rfl) rfl) rfl) (congrArg (Value.int .i64) ((by first | rfl | omega | (simp; done) | (simp; omega)) : (k : Int) + 1 = ((k + 1 : Nat) : Int)))), H87_, S82_, (by first | assumption | omega | exact rfl)⟩, by first | omega | (dsimp only; omega) | (simp; omega)⟩
          · have c68_fp : ¬ ((k : Int) < (K.length : Int)) := of_decide_eq_false c68_f
            refine C_exit (X_thenX (X_thenX (X_blkHit ?_)))
            refine (X_then (hK61_ _ _ ?_))
            clear hK61_
            refine C_seq (fun K88_ hK88_ => ?_)
            refine C_reg ?_
            refine S_list (T_val (v := (Value.bool false)) (x_assign rfl) ?_)
            refine wpList_nil ?_
            refine (X_then (hK88_ _ _ ?_))
            clear hK88_
            refine C_ret ?_
            refine R_any (v := (Value.bool false)) (run_results1 rfl rfl) ?_
            have H89_ : Holds w63_ (ro R :: F) := (Holds.erase (Holds.bring H64_ 1 rfl) 1)
            exact ⟨_, [], rfl, ⟨false, rfl, rfl, (fun h => by cases h)⟩, S65_, H89_⟩
end Go.Proofs.Ytgeggiebefonhaa
