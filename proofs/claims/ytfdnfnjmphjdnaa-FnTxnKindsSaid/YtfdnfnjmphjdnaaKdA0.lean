/- What the functions over transactions come to: the small ones. -/
import Derived.Test.YtfdnfnjmphjdnaaKdD
import Derived.Test.YtfdnfnjmphjdnaaGwK
import Derived.Test.YtfdnfnjmphjdnaaTy
set_option linter.unusedVariables false
set_option linter.unusedSimpArgs false
namespace Go.Proofs.Ytfdnfnjmphjdnaa
open Go Go.RowKit Gw

set_option maxHeartbeats 400000 in
theorem kFits10 (R : HP) (c : CmpS) :
    Tri Try.prog 12 #[(Value.agg #[(Value.int .i64 c.T), (Value.int .i64 c.r), (Value.string c.key), (Value.string c.en), (Value.int .i64 c.n), (Value.string c.val), (Value.bool c.bare)])] R [] (fun v post => (∃ b : Bool, v = .bool b) ∧ post = []) := by
  refine Tri.into (n := 15) (al := [(Value.agg #[(Value.int .i64 c.T), (Value.int .i64 c.r), (Value.string c.key), (Value.string c.en), (Value.int .i64 c.n), (Value.string c.val), (Value.bool c.bare)])]) Try.func12 rfl Try.ntmps12 rfl rfl fun w F H => ?_
  replace H : Holds w (ro R :: F) := H
  refine C_seq (fun K1_ hK1_ => ?_)
  refine C_reg ?_
  refine S_list (T_box (v := (Value.agg #[(Value.int .i64 c.T), (Value.int .i64 c.r), (Value.string c.key), (Value.string c.en), (Value.int .i64 c.n), (Value.string c.val), (Value.bool c.bare)])) rfl H ?_)
  intro b2_ w3_ S5_ H4_
  replace H4_ : Holds w3_ (cl b2_ 31 [(Value.int .i64 c.T), (Value.int .i64 c.r), (Value.string c.key), (Value.string c.en), (Value.int .i64 c.n), (Value.string c.val), (Value.bool c.bare)] :: ro R :: F) := H4_
  have S6_ := Same.trans (Same.refl w) S5_
  refine S_list (T_val (v := (Value.bool false)) (x_assign rfl) ?_)
  refine wpList_nil ?_
  refine (X_then (hK1_ _ _ ?_))
  clear hK1_
  refine C_seq (fun K7_ hK7_ => ?_)
  refine C_seq (fun K8_ hK8_ => ?_)
  refine C_reg ?_
  refine S_list (T_val (v := (Value.pointer (some ⟨b2_, 2, none⟩))) (by kernel_rfl) ?_)
  refine S_list (T_val (v := (Value.string c.key)) (x_load1 rfl Try.underlying9 rfl ((Holds.rd H4_ 0 rfl) 2 (Value.string c.key) rfl)) ?_)
  refine S_list (T_val (v := (Value.int .i64 (c.key.size : Int))) (x_lenT rfl Try.underlying9) ?_)
  refine S_list (T_val (v := (Value.bool (decide (2147483647 < (c.key.size : Int))))) (x_bin rfl rfl rfl) ?_)
  refine wpList_nil ?_
  refine (X_then (hK8_ _ _ ?_))
  clear hK8_
  refine C_cond (b := decide (2147483647 < (c.key.size : Int))) rfl (fun c9_t => ?_) (fun c9_f => ?_)
  · have c9_tp : 2147483647 < (c.key.size : Int) := of_decide_eq_true c9_t
    refine C_seq (fun K10_ hK10_ => ?_)
    refine C_reg ?_
    refine S_list (T_val (v := (Value.bool false)) (x_assign rfl) ?_)
    refine wpList_nil ?_
    refine (X_then (hK10_ _ _ ?_))
    clear hK10_
    refine C_ret (X_thenR ?_)
    refine R_any (v := (Value.bool false)) (run_results1 rfl rfl) ?_
    have H11_ : Holds w3_ (ro R :: F) := (Holds.erase (Holds.bring H4_ 1 rfl) 1)
    exact ⟨_, [], rfl, ⟨⟨_, rfl⟩, rfl⟩, S6_, H11_⟩
  · have c9_fp : ¬ (2147483647 < (c.key.size : Int)) := of_decide_eq_false c9_f
    refine C_skip (X_then (hK7_ _ _ ?_))
    clear hK7_
    refine C_seq (fun K12_ hK12_ => ?_)
    refine C_seq (fun K13_ hK13_ => ?_)
    refine C_reg ?_
    refine S_list (T_val (v := (Value.pointer (some ⟨b2_, 3, none⟩))) (by kernel_rfl) ?_)
    refine S_list (T_val (v := (Value.string c.en)) (x_load1 rfl Try.underlying9 rfl ((Holds.rd H4_ 0 rfl) 3 (Value.string c.en) rfl)) ?_)
    refine S_list (T_val (v := (Value.int .i64 (c.en.size : Int))) (x_lenT rfl Try.underlying9) ?_)
    refine S_list (T_val (v := (Value.bool (decide (2147483647 < (c.en.size : Int))))) (x_bin rfl rfl rfl) ?_)
    refine wpList_nil ?_
    refine (X_then (hK13_ _ _ ?_))
    clear hK13_
    refine C_cond (b := decide (2147483647 < (c.en.size : Int))) rfl (fun c14_t => ?_) (fun c14_f => ?_)
    · have c14_tp : 2147483647 < (c.en.size : Int) := of_decide_eq_true c14_t
      refine C_seq (fun K15_ hK15_ => ?_)
      refine C_reg ?_
      refine S_list (T_val (v := (Value.bool false)) (x_assign rfl) ?_)
      refine wpList_nil ?_
      refine (X_then (hK15_ _ _ ?_))
      clear hK15_
      refine C_ret (X_thenR ?_)
      refine R_any (v := (Value.bool false)) (run_results1 rfl rfl) ?_
      have H16_ : Holds w3_ (ro R :: F) := (Holds.erase (Holds.bring H4_ 1 rfl) 1)
      exact ⟨_, [], rfl, ⟨⟨_, rfl⟩, rfl⟩, S6_, H16_⟩
    · have c14_fp : ¬ (2147483647 < (c.en.size : Int)) := of_decide_eq_false c14_f
      refine C_skip (X_then (hK12_ _ _ ?_))
      clear hK12_
      refine C_seq (fun K17_ hK17_ => ?_)
      refine C_seq (fun K18_ hK18_ => ?_)
      refine C_reg ?_
      refine S_list (T_val (v := (Value.pointer (some ⟨b2_, 5, none⟩))) (by kernel_rfl) ?_)
      refine S_list (T_val (v := (Value.string c.val)) (x_load1 rfl Try.underlying9 rfl ((Holds.rd H4_ 0 rfl) 5 (Value.string c.val) rfl)) ?_)
      refine S_list (T_val (v := (Value.int .i64 (c.val.size : Int))) (x_lenT rfl Try.underlying9) ?_)
      refine S_list (T_val (v := (Value.bool (decide (2147483647 < (c.val.size : Int))))) (x_bin rfl rfl rfl) ?_)
      refine wpList_nil ?_
      refine (X_then (hK18_ _ _ ?_))
      clear hK18_
      refine C_cond (b := decide (2147483647 < (c.val.size : Int))) rfl (fun c19_t => ?_) (fun c19_f => ?_)
      · have c19_tp : 2147483647 < (c.val.size : Int) := of_decide_eq_true c19_t
        refine C_seq (fun K20_ hK20_ => ?_)
        refine C_reg ?_
        refine S_list (T_val (v := (Value.bool false)) (x_assign rfl) ?_)
        refine wpList_nil ?_
        refine (X_then (hK20_ _ _ ?_))
        clear hK20_
        refine C_ret (X_thenR ?_)
        refine R_any (v := (Value.bool false)) (run_results1 rfl rfl) ?_
        have H21_ : Holds w3_ (ro R :: F) := (Holds.erase (Holds.bring H4_ 1 rfl) 1)
        exact ⟨_, [], rfl, ⟨⟨_, rfl⟩, rfl⟩, S6_, H21_⟩
      · have c19_fp : ¬ (2147483647 < (c.val.size : Int)) := of_decide_eq_false c19_f
        refine C_skip (X_then (hK17_ _ _ ?_))
        clear hK17_
        refine C_seq (fun K22_ hK22_ => ?_)
        refine C_reg ?_
        refine S_list (T_val (v := (Value.bool true)) (x_assign rfl) ?_)
        refine wpList_nil ?_
        refine (X_then (hK22_ _ _ ?_))
        clear hK22_
        refine C_ret ?_
        refine R_any (v := (Value.bool true)) (run_results1 rfl rfl) ?_
        have H23_ : Holds w3_ (ro R :: F) := (Holds.erase (Holds.bring H4_ 1 rfl) 1)
        exact ⟨_, [], rfl, ⟨⟨_, rfl⟩, rfl⟩, S6_, H23_⟩

set_option maxHeartbeats 400000 in
theorem kTxnCmp (R : HP) (c : CmpS) :
    Tri Try.prog 14 #[(Value.agg #[(Value.int .i64 c.T), (Value.int .i64 c.r), (Value.string c.key), (Value.string c.en), (Value.int .i64 c.n), (Value.string c.val), (Value.bool c.bare)])] R [] (fun v post => (∃ b : Bool, v = .bool b) ∧ post = []) := by
  refine Tri.into (n := 36) (al := [(Value.agg #[(Value.int .i64 c.T), (Value.int .i64 c.r), (Value.string c.key), (Value.string c.en), (Value.int .i64 c.n), (Value.string c.val), (Value.bool c.bare)])]) Try.func14 rfl Try.ntmps14 rfl rfl fun w F H => ?_
  replace H : Holds w (ro R :: F) := H
  refine C_seq (fun K1_ hK1_ => ?_)
  refine C_reg ?_
  refine S_list (T_box (v := (Value.agg #[(Value.int .i64 c.T), (Value.int .i64 c.r), (Value.string c.key), (Value.string c.en), (Value.int .i64 c.n), (Value.string c.val), (Value.bool c.bare)])) rfl H ?_)
  intro b2_ w3_ S5_ H4_
  replace H4_ : Holds w3_ (cl b2_ 31 [(Value.int .i64 c.T), (Value.int .i64 c.r), (Value.string c.key), (Value.string c.en), (Value.int .i64 c.n), (Value.string c.val), (Value.bool c.bare)] :: ro R :: F) := H4_
  have S6_ := Same.trans (Same.refl w) S5_
  refine S_list (T_val (v := (Value.bool false)) (x_assign rfl) ?_)
  refine wpList_nil ?_
  refine (X_then (hK1_ _ _ ?_))
  clear hK1_
  refine C_seq (fun K7_ hK7_ => ?_)
  refine C_reg ?_
  refine S_list (T_val (v := (Value.pointer (some ⟨b2_, 0, none⟩))) (by kernel_rfl) ?_)
  refine S_list (T_val (v := (Value.int .i64 c.T)) (x_load1 rfl Try.underlying3 rfl ((Holds.rd H4_ 0 rfl) 0 (Value.int .i64 c.T) rfl)) ?_)
  refine S_list (T_val (v := (Value.bool (decide (0 ≤ c.T)))) (x_bin rfl rfl rfl) ?_)
  refine S_list (T_val (v := (Value.bool (decide (0 ≤ c.T)))) (x_move rfl) ?_)
  rcases Bool.eq_false_or_eq_true (decide (0 ≤ c.T)) with c8_t | c8_f
  · have c8_tp : 0 ≤ c.T := of_decide_eq_true c8_t
    refine S_yes (j := 3) (dj := 6) (b := true) rfl rfl (congrArg Value.bool c8_t) (T_val (v := (Value.pointer (some ⟨b2_, 0, none⟩))) (by kernel_rfl) ?_)
    refine S_yes (j := 3) (dj := 6) (b := true) rfl rfl (congrArg Value.bool c8_t) (T_val (v := (Value.int .i64 c.T)) (x_load1 rfl Try.underlying3 rfl ((Holds.rd H4_ 0 rfl) 0 (Value.int .i64 c.T) rfl)) ?_)
    refine S_yes (j := 3) (dj := 6) (b := true) rfl rfl (congrArg Value.bool c8_t) (T_val (v := (Value.bool (decide (c.T ≤ 4)))) (x_bin rfl rfl rfl) ?_)
    refine S_list (T_pickT (v := (Value.bool (decide (c.T ≤ 4)))) (congrArg Value.bool c8_t) rfl ?_)
    refine S_list (T_val (v := (Value.bool (decide (c.T ≤ 4)))) (x_move rfl) ?_)
    rcases Bool.eq_false_or_eq_true (decide (c.T ≤ 4)) with c9_t | c9_f
    · have c9_tp : c.T ≤ 4 := of_decide_eq_true c9_t
      refine S_yes (j := 8) (dj := 11) (b := true) rfl rfl (congrArg Value.bool c9_t) (T_val (v := (Value.pointer (some ⟨b2_, 1, none⟩))) (by kernel_rfl) ?_)
      refine S_yes (j := 8) (dj := 11) (b := true) rfl rfl (congrArg Value.bool c9_t) (T_val (v := (Value.int .i64 c.r)) (x_load1 rfl Try.underlying3 rfl ((Holds.rd H4_ 0 rfl) 1 (Value.int .i64 c.r) rfl)) ?_)
      refine S_yes (j := 8) (dj := 11) (b := true) rfl rfl (congrArg Value.bool c9_t) (T_val (v := (Value.bool (decide (0 ≤ c.r)))) (x_bin rfl rfl rfl) ?_)
      refine S_list (T_pickT (v := (Value.bool (decide (0 ≤ c.r)))) (congrArg Value.bool c9_t) rfl ?_)
      refine S_list (T_val (v := (Value.bool (decide (0 ≤ c.r)))) (x_move rfl) ?_)
      rcases Bool.eq_false_or_eq_true (decide (0 ≤ c.r)) with c10_t | c10_f
      · have c10_tp : 0 ≤ c.r := of_decide_eq_true c10_t
        refine S_yes (j := 13) (dj := 16) (b := true) rfl rfl (congrArg Value.bool c10_t) (T_val (v := (Value.pointer (some ⟨b2_, 1, none⟩))) (by kernel_rfl) ?_)
        refine S_yes (j := 13) (dj := 16) (b := true) rfl rfl (congrArg Value.bool c10_t) (T_val (v := (Value.int .i64 c.r)) (x_load1 rfl Try.underlying3 rfl ((Holds.rd H4_ 0 rfl) 1 (Value.int .i64 c.r) rfl)) ?_)
        refine S_yes (j := 13) (dj := 16) (b := true) rfl rfl (congrArg Value.bool c10_t) (T_val (v := (Value.bool (decide (c.r ≤ 3)))) (x_bin rfl rfl rfl) ?_)
        refine S_list (T_pickT (v := (Value.bool (decide (c.r ≤ 3)))) (congrArg Value.bool c10_t) rfl ?_)
        refine S_list (T_val (v := (Value.bool (decide (c.r ≤ 3)))) (x_move rfl) ?_)
        rcases Bool.eq_false_or_eq_true (decide (c.r ≤ 3)) with c11_t | c11_f
        · have c11_tp : c.r ≤ 3 := of_decide_eq_true c11_t
          refine S_yes (j := 18) (dj := 21) (b := true) rfl rfl (congrArg Value.bool c11_t) (T_val (v := (Value.pointer (some ⟨b2_, 2, none⟩))) (by kernel_rfl) ?_)
          refine S_yes (j := 18) (dj := 21) (b := true) rfl rfl (congrArg Value.bool c11_t) (T_val (v := (Value.string c.key)) (x_load1 rfl Try.underlying9 rfl ((Holds.rd H4_ 0 rfl) 2 (Value.string c.key) rfl)) ?_)
          refine S_yes (j := 18) (dj := 21) (b := true) rfl rfl (congrArg Value.bool c11_t) (T_callW (al := [(Value.string c.key)]) rfl rfl cb34 (Calls.into (n := 6) (al := [(Value.string c.key)]) Try.func34 rfl Try.ntmps34 rfl rfl ?_))
          refine C_seq (fun K12_ hK12_ => ?_)
          refine C_reg ?_
          refine S_list (T_val (v := (Value.bool false)) (x_assign rfl) ?_)
          refine wpList_nil ?_
          refine (X_then (hK12_ _ _ ?_))
          clear hK12_
          refine C_seq (fun K13_ hK13_ => ?_)
          refine C_reg ?_
          refine S_list (T_val (v := (Value.string c.key)) (x_move rfl) ?_)
          refine S_list (T_val (v := (Value.int .i64 (c.key.size : Int))) (x_lenT rfl Try.underlying9) ?_)
          refine S_list (T_val (v := (Value.bool (decide ((c.key.size : Int) ≤ 64)))) (x_bin rfl rfl rfl) ?_)
          refine S_list (T_val (v := (Value.bool (decide ((c.key.size : Int) ≤ 64)))) (x_assign rfl) ?_)
          refine wpList_nil ?_
          refine (X_then (hK13_ _ _ ?_))
          clear hK13_
          refine C_ret ?_
          refine R_any (v := (Value.bool (decide ((c.key.size : Int) ≤ 64)))) (run_results1 rfl rfl) ⟨_, rfl, ?_⟩
          refine S_list (T_pickT (v := (Value.bool (decide ((c.key.size : Int) ≤ 64)))) (congrArg Value.bool c11_t) rfl ?_)
          refine S_list (T_val (v := (Value.bool (decide ((c.key.size : Int) ≤ 64)))) (x_move rfl) ?_)
          rcases Bool.eq_false_or_eq_true (decide ((c.key.size : Int) ≤ 64)) with c14_t | c14_f
          · have c14_tp : (c.key.size : Int) ≤ 64 := of_decide_eq_true c14_t
            refine S_yes (j := 23) (dj := 26) (b := true) rfl rfl (congrArg Value.bool c14_t) (T_val (v := (Value.pointer (some ⟨b2_, 3, none⟩))) (by kernel_rfl) ?_)
            refine S_yes (j := 23) (dj := 26) (b := true) rfl rfl (congrArg Value.bool c14_t) (T_val (v := (Value.string c.en)) (x_load1 rfl Try.underlying9 rfl ((Holds.rd H4_ 0 rfl) 3 (Value.string c.en) rfl)) ?_)
            refine S_yes (j := 23) (dj := 26) (b := true) rfl rfl (congrArg Value.bool c14_t) (T_callW (al := [(Value.string c.en)]) rfl rfl cb34 (Calls.into (n := 6) (al := [(Value.string c.en)]) Try.func34 rfl Try.ntmps34 rfl rfl ?_))
            refine C_seq (fun K15_ hK15_ => ?_)
            refine C_reg ?_
            refine S_list (T_val (v := (Value.bool false)) (x_assign rfl) ?_)
            refine wpList_nil ?_
            refine (X_then (hK15_ _ _ ?_))
            clear hK15_
            refine C_seq (fun K16_ hK16_ => ?_)
            refine C_reg ?_
            refine S_list (T_val (v := (Value.string c.en)) (x_move rfl) ?_)
            refine S_list (T_val (v := (Value.int .i64 (c.en.size : Int))) (x_lenT rfl Try.underlying9) ?_)
            refine S_list (T_val (v := (Value.bool (decide ((c.en.size : Int) ≤ 64)))) (x_bin rfl rfl rfl) ?_)
            refine S_list (T_val (v := (Value.bool (decide ((c.en.size : Int) ≤ 64)))) (x_assign rfl) ?_)
            refine wpList_nil ?_
            refine (X_then (hK16_ _ _ ?_))
            clear hK16_
            refine C_ret ?_
            refine R_any (v := (Value.bool (decide ((c.en.size : Int) ≤ 64)))) (run_results1 rfl rfl) ⟨_, rfl, ?_⟩
            refine S_list (T_pickT (v := (Value.bool (decide ((c.en.size : Int) ≤ 64)))) (congrArg Value.bool c14_t) rfl ?_)
            refine S_list (T_val (v := (Value.bool (decide ((c.en.size : Int) ≤ 64)))) (x_move rfl) ?_)
            rcases Bool.eq_false_or_eq_true (decide ((c.en.size : Int) ≤ 64)) with c17_t | c17_f
            · have c17_tp : (c.en.size : Int) ≤ 64 := of_decide_eq_true c17_t
              refine S_yes (j := 28) (dj := 31) (b := true) rfl rfl (congrArg Value.bool c17_t) (T_val (v := (Value.pointer (some ⟨b2_, 5, none⟩))) (by kernel_rfl) ?_)
              refine S_yes (j := 28) (dj := 31) (b := true) rfl rfl (congrArg Value.bool c17_t) (T_val (v := (Value.string c.val)) (x_load1 rfl Try.underlying9 rfl ((Holds.rd H4_ 0 rfl) 5 (Value.string c.val) rfl)) ?_)
              refine S_yes (j := 28) (dj := 31) (b := true) rfl rfl (congrArg Value.bool c17_t) (T_callW (al := [(Value.string c.val)]) rfl rfl cb34 (Calls.into (n := 6) (al := [(Value.string c.val)]) Try.func34 rfl Try.ntmps34 rfl rfl ?_))
              refine C_seq (fun K18_ hK18_ => ?_)
              refine C_reg ?_
              refine S_list (T_val (v := (Value.bool false)) (x_assign rfl) ?_)
              refine wpList_nil ?_
              refine (X_then (hK18_ _ _ ?_))
              clear hK18_
              refine C_seq (fun K19_ hK19_ => ?_)
              refine C_reg ?_
              refine S_list (T_val (v := (Value.string c.val)) (x_move rfl) ?_)
              refine S_list (T_val (v := (Value.int .i64 (c.val.size : Int))) (x_lenT rfl Try.underlying9) ?_)
              refine S_list (T_val (v := (Value.bool (decide ((c.val.size : Int) ≤ 64)))) (x_bin rfl rfl rfl) ?_)
              refine S_list (T_val (v := (Value.bool (decide ((c.val.size : Int) ≤ 64)))) (x_assign rfl) ?_)
              refine wpList_nil ?_
              refine (X_then (hK19_ _ _ ?_))
              clear hK19_
              refine C_ret ?_
              refine R_any (v := (Value.bool (decide ((c.val.size : Int) ≤ 64)))) (run_results1 rfl rfl) ⟨_, rfl, ?_⟩
              refine S_list (T_pickT (v := (Value.bool (decide ((c.val.size : Int) ≤ 64)))) (congrArg Value.bool c17_t) rfl ?_)
              refine S_list (T_val (v := (Value.bool (decide ((c.val.size : Int) ≤ 64)))) (x_assign rfl) ?_)
              refine wpList_nil ?_
              refine (X_then (hK7_ _ _ ?_))
              clear hK7_
              refine C_ret ?_
              refine R_any (v := (Value.bool (decide ((c.val.size : Int) ≤ 64)))) (run_results1 rfl rfl) ?_
              have H20_ : Holds w3_ (ro R :: F) := (Holds.erase (Holds.bring H4_ 1 rfl) 1)
              exact ⟨_, [], rfl, ⟨⟨_, rfl⟩, rfl⟩, S6_, H20_⟩
            · have c17_fp : ¬ ((c.en.size : Int) ≤ 64) := of_decide_eq_false c17_f
              refine S_no (j := 28) (dj := 31) (b := false) rfl rfl (congrArg Value.bool c17_f) (by decide) ?_
              refine S_no (j := 28) (dj := 31) (b := false) rfl rfl (congrArg Value.bool c17_f) (by decide) ?_
              refine S_no (j := 28) (dj := 31) (b := false) rfl rfl (congrArg Value.bool c17_f) (by decide) ?_
              refine S_list (T_pickF (v := (Value.bool false)) (congrArg Value.bool c17_f) rfl ?_)
              refine S_list (T_val (v := (Value.bool false)) (x_assign rfl) ?_)
              refine wpList_nil ?_
              refine (X_then (hK7_ _ _ ?_))
              clear hK7_
              refine C_ret ?_
              refine R_any (v := (Value.bool false)) (run_results1 rfl rfl) ?_
              have H21_ : Holds w3_ (ro R :: F) := (Holds.erase (Holds.bring H4_ 1 rfl) 1)
              exact ⟨_, [], rfl, ⟨⟨_, rfl⟩, rfl⟩, S6_, H21_⟩
          · have c14_fp : ¬ ((c.key.size : Int) ≤ 64) := of_decide_eq_false c14_f
            refine S_no (j := 23) (dj := 26) (b := false) rfl rfl (congrArg Value.bool c14_f) (by decide) ?_
            refine S_no (j := 23) (dj := 26) (b := false) rfl rfl (congrArg Value.bool c14_f) (by decide) ?_
            refine S_no (j := 23) (dj := 26) (b := false) rfl rfl (congrArg Value.bool c14_f) (by decide) ?_
            refine S_list (T_pickF (v := (Value.bool false)) (congrArg Value.bool c14_f) rfl ?_)
            refine S_list (T_val (v := (Value.bool false)) (x_move rfl) ?_)
            refine S_no (j := 28) (dj := 31) (b := false) rfl rfl rfl (by decide) ?_
            refine S_no (j := 28) (dj := 31) (b := false) rfl rfl rfl (by decide) ?_
            refine S_no (j := 28) (dj := 31) (b := false) rfl rfl rfl (by decide) ?_
            refine S_list (T_pickF (v := (Value.bool false)) rfl rfl ?_)
            refine S_list (T_val (v := (Value.bool false)) (x_assign rfl) ?_)
            refine wpList_nil ?_
            refine (X_then (hK7_ _ _ ?_))
            clear hK7_
            refine C_ret ?_
            refine R_any (v := (Value.bool false)) (run_results1 rfl rfl) ?_
            have H22_ : Holds w3_ (ro R :: F) := (Holds.erase (Holds.bring H4_ 1 rfl) 1)
            exact ⟨_, [], rfl, ⟨⟨_, rfl⟩, rfl⟩, S6_, H22_⟩
        · have c11_fp : ¬ (c.r ≤ 3) := of_decide_eq_false c11_f
          refine S_no (j := 18) (dj := 21) (b := false) rfl rfl (congrArg Value.bool c11_f) (by decide) ?_
          refine S_no (j := 18) (dj := 21) (b := false) rfl rfl (congrArg Value.bool c11_f) (by decide) ?_
          refine S_no (j := 18) (dj := 21) (b := false) rfl rfl (congrArg Value.bool c11_f) (by decide) ?_
          refine S_list (T_pickF (v := (Value.bool false)) (congrArg Value.bool c11_f) rfl ?_)
          refine S_list (T_val (v := (Value.bool false)) (x_move rfl) ?_)
          refine S_no (j := 23) (dj := 26) (b := false) rfl rfl rfl (by decide) ?_
          refine S_no (j := 23) (dj := 26) (b := false) rfl rfl rfl (by decide) ?_
          refine S_no (j := 23) (dj := 26) (b := false) rfl rfl rfl (by decide) ?_
          refine S_list (T_pickF (v := (Value.bool false)) rfl rfl ?_)
          refine S_list (T_val (v := (Value.bool false)) (x_move rfl) ?_)
          refine S_no (j := 28) (dj := 31) (b := false) rfl rfl rfl (by decide) ?_
          refine S_no (j := 28) (dj := 31) (b := false) rfl rfl rfl (by decide) ?_
          refine S_no (j := 28) (dj := 31) (b := false) rfl rfl rfl (by decide) ?_
          refine S_list (T_pickF (v := (Value.bool false)) rfl rfl ?_)
          refine S_list (T_val (v := (Value.bool false)) (x_assign rfl) ?_)
          refine wpList_nil ?_
          refine (X_then (hK7_ _ _ ?_))
          clear hK7_
          refine C_ret ?_
          refine R_any (v := (Value.bool false)) (run_results1 rfl rfl) ?_
          have H23_ : Holds w3_ (ro R :: F) := (Holds.erase (Holds.bring H4_ 1 rfl) 1)
          exact ⟨_, [], rfl, ⟨⟨_, rfl⟩, rfl⟩, S6_, H23_⟩
      · have c10_fp : ¬ (0 ≤ c.r) := of_decide_eq_false c10_f
        refine S_no (j := 13) (dj := 16) (b := false) rfl rfl (congrArg Value.bool c10_f) (by decide) ?_
        refine S_no (j := 13) (dj := 16) (b := false) rfl rfl (congrArg Value.bool c10_f) (by decide) ?_
        refine S_no (j := 13) (dj := 16) (b := false) rfl rfl (congrArg Value.bool c10_f) (by decide) ?_
        refine S_list (T_pickF (v := (Value.bool false)) (congrArg Value.bool c10_f) rfl ?_)
        refine S_list (T_val (v := (Value.bool false)) (x_move rfl) ?_)
        refine S_no (j := 18) (dj := 21) (b := false) rfl rfl rfl (by decide) ?_
        refine S_no (j := 18) (dj := 21) (b := false) rfl rfl rfl (by decide) ?_
        refine S_no (j := 18) (dj := 21) (b := false) rfl rfl rfl (by decide) ?_
        refine S_list (T_pickF (v := (Value.bool false)) rfl rfl ?_)
        refine S_list (T_val (v := (Value.bool false)) (x_move rfl) ?_)
        refine S_no (j := 23) (dj := 26) (b := false) rfl rfl rfl (by decide) ?_
        refine S_no (j := 23) (dj := 26) (b := false) rfl rfl rfl (by decide) ?_
        refine S_no (j := 23) (dj := 26) (b := false) rfl rfl rfl (by decide) ?_
        refine S_list (T_pickF (v := (Value.bool false)) rfl rfl ?_)
        refine S_list (T_val (v := (Value.bool false)) (x_move rfl) ?_)
        refine S_no (j := 28) (dj := 31) (b := false) rfl rfl rfl (by decide) ?_
        refine S_no (j := 28) (dj := 31) (b := false) rfl rfl rfl (by decide) ?_
        refine S_no (j := 28) (dj := 31) (b := false) rfl rfl rfl (by decide) ?_
        refine S_list (T_pickF (v := (Value.bool false)) rfl rfl ?_)
        refine S_list (T_val (v := (Value.bool false)) (x_assign rfl) ?_)
        refine wpList_nil ?_
        refine (X_then (hK7_ _ _ ?_))
        clear hK7_
        refine C_ret ?_
        refine R_any (v := (Value.bool false)) (run_results1 rfl rfl) ?_
        have H24_ : Holds w3_ (ro R :: F) := (Holds.erase (Holds.bring H4_ 1 rfl) 1)
        exact ⟨_, [], rfl, ⟨⟨_, rfl⟩, rfl⟩, S6_, H24_⟩
    · have c9_fp : ¬ (c.T ≤ 4) := of_decide_eq_false c9_f
      refine S_no (j := 8) (dj := 11) (b := false) rfl rfl (congrArg Value.bool c9_f) (by decide) ?_
      refine S_no (j := 8) (dj := 11) (b := false) rfl rfl (congrArg Value.bool c9_f) (by decide) ?_
      refine S_no (j := 8) (dj := 11) (b := false) rfl rfl (congrArg Value.bool c9_f) (by decide) ?_
      refine S_list (T_pickF (v := (Value.bool false)) (congrArg Value.bool c9_f) rfl ?_)
      refine S_list (T_val (v := (Value.bool false)) (x_move rfl) ?_)
      refine S_no (j := 13) (dj := 16) (b := false) rfl rfl rfl (by decide) ?_
      refine S_no (j := 13) (dj := 16) (b := false) rfl rfl rfl (by decide) ?_
      refine S_no (j := 13) (dj := 16) (b := false) rfl rfl rfl (by decide) ?_
      refine S_list (T_pickF (v := (Value.bool false)) rfl rfl ?_)
      refine S_list (T_val (v := (Value.bool false)) (x_move rfl) ?_)
      refine S_no (j := 18) (dj := 21) (b := false) rfl rfl rfl (by decide) ?_
      refine S_no (j := 18) (dj := 21) (b := false) rfl rfl rfl (by decide) ?_
      refine S_no (j := 18) (dj := 21) (b := false) rfl rfl rfl (by decide) ?_
      refine S_list (T_pickF (v := (Value.bool false)) rfl rfl ?_)
      refine S_list (T_val (v := (Value.bool false)) (x_move rfl) ?_)
      refine S_no (j := 23) (dj := 26) (b := false) rfl rfl rfl (by decide) ?_
      refine S_no (j := 23) (dj := 26) (b := false) rfl rfl rfl (by decide) ?_
      refine S_no (j := 23) (dj := 26) (b := false) rfl rfl rfl (by decide) ?_
      refine S_list (T_pickF (v := (Value.bool false)) rfl rfl ?_)
      refine S_list (T_val (v := (Value.bool false)) (x_move rfl) ?_)
      refine S_no (j := 28) (dj := 31) (b := false) rfl rfl rfl (by decide) ?_
      refine S_no (j := 28) (dj := 31) (b := false) rfl rfl rfl (by decide) ?_
      refine S_no (j := 28) (dj := 31) (b := false) rfl rfl rfl (by decide) ?_
      refine S_list (T_pickF (v := (Value.bool false)) rfl rfl ?_)
      refine S_list (T_val (v := (Value.bool false)) (x_assign rfl) ?_)
      refine wpList_nil ?_
      refine (X_then (hK7_ _ _ ?_))
      clear hK7_
      refine C_ret ?_
      refine R_any (v := (Value.bool false)) (run_results1 rfl rfl) ?_
      have H25_ : Holds w3_ (ro R :: F) := (Holds.erase (Holds.bring H4_ 1 rfl) 1)
      exact ⟨_, [], rfl, ⟨⟨_, rfl⟩, rfl⟩, S6_, H25_⟩
  · have c8_fp : ¬ (0 ≤ c.T) := of_decide_eq_false c8_f
    refine S_no (j := 3) (dj := 6) (b := false) rfl rfl (congrArg Value.bool c8_f) (by decide) ?_
    refine S_no (j := 3) (dj := 6) (b := false) rfl rfl (congrArg Value.bool c8_f) (by decide) ?_
    refine S_no (j := 3) (dj := 6) (b := false) rfl rfl (congrArg Value.bool c8_f) (by decide) ?_
    refine S_list (T_pickF (v := (Value.bool false)) (congrArg Value.bool c8_f) rfl ?_)
    refine S_list (T_val (v := (Value.bool false)) (x_move rfl) ?_)
    refine S_no (j := 8) (dj := 11) (b := false) rfl rfl rfl (by decide) ?_
    refine S_no (j := 8) (dj := 11) (b := false) rfl rfl rfl (by decide) ?_
    refine S_no (j := 8) (dj := 11) (b := false) rfl rfl rfl (by decide) ?_
    refine S_list (T_pickF (v := (Value.bool false)) rfl rfl ?_)
    refine S_list (T_val (v := (Value.bool false)) (x_move rfl) ?_)
    refine S_no (j := 13) (dj := 16) (b := false) rfl rfl rfl (by decide) ?_
    refine S_no (j := 13) (dj := 16) (b := false) rfl rfl rfl (by decide) ?_
    refine S_no (j := 13) (dj := 16) (b := false) rfl rfl rfl (by decide) ?_
    refine S_list (T_pickF (v := (Value.bool false)) rfl rfl ?_)
    refine S_list (T_val (v := (Value.bool false)) (x_move rfl) ?_)
    refine S_no (j := 18) (dj := 21) (b := false) rfl rfl rfl (by decide) ?_
    refine S_no (j := 18) (dj := 21) (b := false) rfl rfl rfl (by decide) ?_
    refine S_no (j := 18) (dj := 21) (b := false) rfl rfl rfl (by decide) ?_
    refine S_list (T_pickF (v := (Value.bool false)) rfl rfl ?_)
    refine S_list (T_val (v := (Value.bool false)) (x_move rfl) ?_)
    refine S_no (j := 23) (dj := 26) (b := false) rfl rfl rfl (by decide) ?_
    refine S_no (j := 23) (dj := 26) (b := false) rfl rfl rfl (by decide) ?_
    refine S_no (j := 23) (dj := 26) (b := false) rfl rfl rfl (by decide) ?_
    refine S_list (T_pickF (v := (Value.bool false)) rfl rfl ?_)
    refine S_list (T_val (v := (Value.bool false)) (x_move rfl) ?_)
    refine S_no (j := 28) (dj := 31) (b := false) rfl rfl rfl (by decide) ?_
    refine S_no (j := 28) (dj := 31) (b := false) rfl rfl rfl (by decide) ?_
    refine S_no (j := 28) (dj := 31) (b := false) rfl rfl rfl (by decide) ?_
    refine S_list (T_pickF (v := (Value.bool false)) rfl rfl ?_)
    refine S_list (T_val (v := (Value.bool false)) (x_assign rfl) ?_)
    refine wpList_nil ?_
    refine (X_then (hK7_ _ _ ?_))
    clear hK7_
    refine C_ret ?_
    refine R_any (v := (Value.bool false)) (run_results1 rfl rfl) ?_
    have H26_ : Holds w3_ (ro R :: F) := (Holds.erase (Holds.bring H4_ 1 rfl) 1)
    exact ⟨_, [], rfl, ⟨⟨_, rfl⟩, rfl⟩, S6_, H26_⟩

set_option maxHeartbeats 400000 in
theorem kTxnRange (R : HP) (q : ReqS) :
    Tri Try.prog 41 #[(Value.agg #[(Value.int .i64 q.kind), (Value.string q.key), (Value.string q.en), (Value.string q.val), (Value.int .i64 q.lease), (Value.int .i64 q.rev), (Value.int .i64 q.limit), (Value.int .i64 q.order), (Value.int .i64 q.target), (Value.int .i64 q.minMod), (Value.int .i64 q.maxMod), (Value.int .i64 q.minCreate), (Value.int .i64 q.maxCreate), (Value.bool q.keysOnly), (Value.bool q.countOnly), (Value.bool q.prev), (Value.bool q.ignValue), (Value.bool q.ignLease), (Value.slice q.cA q.cN q.cC), (Value.slice q.tA q.tN q.tC), (Value.slice q.eA q.eN q.eC)])] R [] (fun v post => (∃ b : Bool, v = .bool b) ∧ post = []) := by
  refine Tri.into (n := 63) (al := [(Value.agg #[(Value.int .i64 q.kind), (Value.string q.key), (Value.string q.en), (Value.string q.val), (Value.int .i64 q.lease), (Value.int .i64 q.rev), (Value.int .i64 q.limit), (Value.int .i64 q.order), (Value.int .i64 q.target), (Value.int .i64 q.minMod), (Value.int .i64 q.maxMod), (Value.int .i64 q.minCreate), (Value.int .i64 q.maxCreate), (Value.bool q.keysOnly), (Value.bool q.countOnly), (Value.bool q.prev), (Value.bool q.ignValue), (Value.bool q.ignLease), (Value.slice q.cA q.cN q.cC), (Value.slice q.tA q.tN q.tC), (Value.slice q.eA q.eN q.eC)])]) Try.func41 rfl Try.ntmps41 rfl rfl fun w F H => ?_
  replace H : Holds w (ro R :: F) := H
  refine C_seq (fun K1_ hK1_ => ?_)
  refine C_reg ?_
  refine S_list (T_box (v := (Value.agg #[(Value.int .i64 q.kind), (Value.string q.key), (Value.string q.en), (Value.string q.val), (Value.int .i64 q.lease), (Value.int .i64 q.rev), (Value.int .i64 q.limit), (Value.int .i64 q.order), (Value.int .i64 q.target), (Value.int .i64 q.minMod), (Value.int .i64 q.maxMod), (Value.int .i64 q.minCreate), (Value.int .i64 q.maxCreate), (Value.bool q.keysOnly), (Value.bool q.countOnly), (Value.bool q.prev), (Value.bool q.ignValue), (Value.bool q.ignLease), (Value.slice q.cA q.cN q.cC), (Value.slice q.tA q.tN q.tC), (Value.slice q.eA q.eN q.eC)])) rfl H ?_)
  intro b2_ w3_ S5_ H4_
  replace H4_ : Holds w3_ (cl b2_ 40 [(Value.int .i64 q.kind), (Value.string q.key), (Value.string q.en), (Value.string q.val), (Value.int .i64 q.lease), (Value.int .i64 q.rev), (Value.int .i64 q.limit), (Value.int .i64 q.order), (Value.int .i64 q.target), (Value.int .i64 q.minMod), (Value.int .i64 q.maxMod), (Value.int .i64 q.minCreate), (Value.int .i64 q.maxCreate), (Value.bool q.keysOnly), (Value.bool q.countOnly), (Value.bool q.prev), (Value.bool q.ignValue), (Value.bool q.ignLease), (Value.slice q.cA q.cN q.cC), (Value.slice q.tA q.tN q.tC), (Value.slice q.eA q.eN q.eC)] :: ro R :: F) := H4_
  have S6_ := Same.trans (Same.refl w) S5_
  refine S_list (T_val (v := (Value.bool false)) (x_assign rfl) ?_)
  refine wpList_nil ?_
  refine (X_then (hK1_ _ _ ?_))
  clear hK1_
  refine C_seq (fun K7_ hK7_ => ?_)
  refine C_reg ?_
  refine S_list (T_val (v := (Value.pointer (some ⟨b2_, 7, none⟩))) (by kernel_rfl) ?_)
  refine S_list (T_val (v := (Value.int .i64 q.order)) (x_load1 rfl Try.underlying3 rfl ((Holds.rd H4_ 0 rfl) 7 (Value.int .i64 q.order) rfl)) ?_)
  refine S_list (T_val (v := (Value.bool (decide (0 ≤ q.order)))) (x_bin rfl rfl rfl) ?_)
  refine S_list (T_val (v := (Value.bool (decide (0 ≤ q.order)))) (x_move rfl) ?_)
  rcases Bool.eq_false_or_eq_true (decide (0 ≤ q.order)) with c8_t | c8_f
  · have c8_tp : 0 ≤ q.order := of_decide_eq_true c8_t
    refine S_yes (j := 3) (dj := 7) (b := true) rfl rfl (congrArg Value.bool c8_t) (T_val (v := (Value.pointer (some ⟨b2_, 7, none⟩))) (by kernel_rfl) ?_)
    refine S_yes (j := 3) (dj := 7) (b := true) rfl rfl (congrArg Value.bool c8_t) (T_val (v := (Value.int .i64 q.order)) (x_load1 rfl Try.underlying3 rfl ((Holds.rd H4_ 0 rfl) 7 (Value.int .i64 q.order) rfl)) ?_)
    refine S_yes (j := 3) (dj := 7) (b := true) rfl rfl (congrArg Value.bool c8_t) (T_val (v := (Value.bool (decide (q.order ≤ 2)))) (x_bin rfl rfl rfl) ?_)
    refine S_list (T_pickT (v := (Value.bool (decide (q.order ≤ 2)))) (congrArg Value.bool c8_t) rfl ?_)
    refine S_list (T_val (v := (Value.bool (decide (q.order ≤ 2)))) (x_move rfl) ?_)
    rcases Bool.eq_false_or_eq_true (decide (q.order ≤ 2)) with c9_t | c9_f
    · have c9_tp : q.order ≤ 2 := of_decide_eq_true c9_t
      refine S_yes (j := 8) (dj := 12) (b := true) rfl rfl (congrArg Value.bool c9_t) (T_val (v := (Value.pointer (some ⟨b2_, 8, none⟩))) (by kernel_rfl) ?_)
      refine S_yes (j := 8) (dj := 12) (b := true) rfl rfl (congrArg Value.bool c9_t) (T_val (v := (Value.int .i64 q.target)) (x_load1 rfl Try.underlying3 rfl ((Holds.rd H4_ 0 rfl) 8 (Value.int .i64 q.target) rfl)) ?_)
      refine S_yes (j := 8) (dj := 12) (b := true) rfl rfl (congrArg Value.bool c9_t) (T_val (v := (Value.bool (decide (0 ≤ q.target)))) (x_bin rfl rfl rfl) ?_)
      refine S_list (T_pickT (v := (Value.bool (decide (0 ≤ q.target)))) (congrArg Value.bool c9_t) rfl ?_)
      refine S_list (T_val (v := (Value.bool (decide (0 ≤ q.target)))) (x_move rfl) ?_)
      rcases Bool.eq_false_or_eq_true (decide (0 ≤ q.target)) with c10_t | c10_f
      · have c10_tp : 0 ≤ q.target := of_decide_eq_true c10_t
        refine S_yes (j := 13) (dj := 17) (b := true) rfl rfl (congrArg Value.bool c10_t) (T_val (v := (Value.pointer (some ⟨b2_, 8, none⟩))) (by kernel_rfl) ?_)
        refine S_yes (j := 13) (dj := 17) (b := true) rfl rfl (congrArg Value.bool c10_t) (T_val (v := (Value.int .i64 q.target)) (x_load1 rfl Try.underlying3 rfl ((Holds.rd H4_ 0 rfl) 8 (Value.int .i64 q.target) rfl)) ?_)
        refine S_yes (j := 13) (dj := 17) (b := true) rfl rfl (congrArg Value.bool c10_t) (T_val (v := (Value.bool (decide (q.target ≤ 4)))) (x_bin rfl rfl rfl) ?_)
        refine S_list (T_pickT (v := (Value.bool (decide (q.target ≤ 4)))) (congrArg Value.bool c10_t) rfl ?_)
        refine S_list (T_val (v := (Value.bool (decide (q.target ≤ 4)))) (x_move rfl) ?_)
        rcases Bool.eq_false_or_eq_true (decide (q.target ≤ 4)) with c11_t | c11_f
        · have c11_tp : q.target ≤ 4 := of_decide_eq_true c11_t
          refine S_yes (j := 18) (dj := 22) (b := true) rfl rfl (congrArg Value.bool c11_t) (T_val (v := (Value.pointer (some ⟨b2_, 7, none⟩))) (by kernel_rfl) ?_)
          refine S_yes (j := 18) (dj := 22) (b := true) rfl rfl (congrArg Value.bool c11_t) (T_val (v := (Value.int .i64 q.order)) (x_load1 rfl Try.underlying3 rfl ((Holds.rd H4_ 0 rfl) 7 (Value.int .i64 q.order) rfl)) ?_)
          refine S_yes (j := 18) (dj := 22) (b := true) rfl rfl (congrArg Value.bool c11_t) (T_val (v := (Value.bool (decide (0 < q.order)))) (x_bin rfl rfl rfl) ?_)
          refine S_yes (j := 18) (dj := 22) (b := true) rfl rfl (congrArg Value.bool c11_t) (T_val (v := (Value.bool (decide (0 < q.order)))) (x_move rfl) ?_)
          rcases Bool.eq_false_or_eq_true (decide (0 < q.order)) with c12_t | c12_f
          · have c12_tp : 0 < q.order := of_decide_eq_true c12_t
            refine S_no (j := 22) (dj := 26) (b := true) rfl rfl (congrArg Value.bool c12_t) (by decide) ?_
            refine S_no (j := 22) (dj := 26) (b := true) rfl rfl (congrArg Value.bool c12_t) (by decide) ?_
            refine S_no (j := 22) (dj := 26) (b := true) rfl rfl (congrArg Value.bool c12_t) (by decide) ?_
            refine S_yes (j := 18) (dj := 22) (b := true) rfl rfl (congrArg Value.bool c11_t) (T_pickT (v := (Value.bool true)) (congrArg Value.bool c12_t) rfl ?_)
            refine S_yes (j := 18) (dj := 22) (b := true) rfl rfl (congrArg Value.bool c11_t) (T_val (v := (Value.bool true)) (x_move rfl) ?_)
            refine S_no (j := 27) (dj := 31) (b := true) rfl rfl rfl (by decide) ?_
            refine S_no (j := 27) (dj := 31) (b := true) rfl rfl rfl (by decide) ?_
            refine S_no (j := 27) (dj := 31) (b := true) rfl rfl rfl (by decide) ?_
            refine S_yes (j := 18) (dj := 22) (b := true) rfl rfl (congrArg Value.bool c11_t) (T_pickT (v := (Value.bool true)) rfl rfl ?_)
            refine S_list (T_pickT (v := (Value.bool true)) (congrArg Value.bool c11_t) rfl ?_)
            refine S_list (T_val (v := (Value.bool true)) (x_assign rfl) ?_)
            refine wpList_nil ?_
            refine (X_then (hK7_ _ _ ?_))
            clear hK7_
            refine C_seq (fun K13_ hK13_ => ?_)
            refine C_reg ?_
            refine S_list (T_val (v := (Value.bool true)) (x_move rfl) ?_)
            refine S_list (T_val (v := (Value.bool true)) (x_move rfl) ?_)
            refine S_yes (j := 1) (dj := 38) (b := true) rfl rfl rfl (T_val (v := (Value.pointer (some ⟨b2_, 5, none⟩))) (by kernel_rfl) ?_)
            refine S_yes (j := 1) (dj := 38) (b := true) rfl rfl rfl (T_val (v := (Value.int .i64 q.rev)) (x_load1 rfl Try.underlying2 rfl ((Holds.rd H4_ 0 rfl) 5 (Value.int .i64 q.rev) rfl)) ?_)
            refine S_yes (j := 1) (dj := 38) (b := true) rfl rfl rfl (T_val (v := (Value.bool (decide (0 ≤ q.rev)))) (x_bin rfl rfl rfl) ?_)
            refine S_list (T_pickT (v := (Value.bool (decide (0 ≤ q.rev)))) rfl rfl ?_)
            refine S_list (T_val (v := (Value.bool (decide (0 ≤ q.rev)))) (x_move rfl) ?_)
            rcases Bool.eq_false_or_eq_true (decide (0 ≤ q.rev)) with c14_t | c14_f
            · have c14_tp : 0 ≤ q.rev := of_decide_eq_true c14_t
              refine S_yes (j := 6) (dj := 43) (b := true) rfl rfl (congrArg Value.bool c14_t) (T_val (v := (Value.pointer (some ⟨b2_, 6, none⟩))) (by kernel_rfl) ?_)
              refine S_yes (j := 6) (dj := 43) (b := true) rfl rfl (congrArg Value.bool c14_t) (T_val (v := (Value.int .i64 q.limit)) (x_load1 rfl Try.underlying2 rfl ((Holds.rd H4_ 0 rfl) 6 (Value.int .i64 q.limit) rfl)) ?_)
              refine S_yes (j := 6) (dj := 43) (b := true) rfl rfl (congrArg Value.bool c14_t) (T_val (v := (Value.bool (decide (q.limit ≤ 1048576)))) (x_bin rfl rfl rfl) ?_)
              refine S_list (T_pickT (v := (Value.bool (decide (q.limit ≤ 1048576)))) (congrArg Value.bool c14_t) rfl ?_)
              refine S_list (T_val (v := (Value.bool (decide (q.limit ≤ 1048576)))) (x_move rfl) ?_)
              rcases Bool.eq_false_or_eq_true (decide (q.limit ≤ 1048576)) with c15_t | c15_f
              · have c15_tp : q.limit ≤ 1048576 := of_decide_eq_true c15_t
                refine S_yes (j := 11) (dj := 48) (b := true) rfl rfl (congrArg Value.bool c15_t) (T_val (v := (Value.pointer (some ⟨b2_, 6, none⟩))) (by kernel_rfl) ?_)
                refine S_yes (j := 11) (dj := 48) (b := true) rfl rfl (congrArg Value.bool c15_t) (T_val (v := (Value.int .i64 q.limit)) (x_load1 rfl Try.underlying2 rfl ((Holds.rd H4_ 0 rfl) 6 (Value.int .i64 q.limit) rfl)) ?_)
                refine S_yes (j := 11) (dj := 48) (b := true) rfl rfl (congrArg Value.bool c15_t) (T_val (v := (Value.bool (decide (-1048576 ≤ q.limit)))) (x_bin rfl rfl rfl) ?_)
                refine S_list (T_pickT (v := (Value.bool (decide (-1048576 ≤ q.limit)))) (congrArg Value.bool c15_t) rfl ?_)
                refine S_list (T_val (v := (Value.bool (decide (-1048576 ≤ q.limit)))) (x_move rfl) ?_)
                rcases Bool.eq_false_or_eq_true (decide (-1048576 ≤ q.limit)) with c16_t | c16_f
                · have c16_tp : -1048576 ≤ q.limit := of_decide_eq_true c16_t
                  refine S_yes (j := 16) (dj := 53) (b := true) rfl rfl (congrArg Value.bool c16_t) (T_val (v := (Value.pointer (some ⟨b2_, 1, none⟩))) (by kernel_rfl) ?_)
                  refine S_yes (j := 16) (dj := 53) (b := true) rfl rfl (congrArg Value.bool c16_t) (T_val (v := (Value.string q.key)) (x_load1 rfl Try.underlying9 rfl ((Holds.rd H4_ 0 rfl) 1 (Value.string q.key) rfl)) ?_)
                  refine S_yes (j := 16) (dj := 53) (b := true) rfl rfl (congrArg Value.bool c16_t) (T_callW (al := [(Value.string q.key)]) rfl rfl cb34 (Calls.into (n := 6) (al := [(Value.string q.key)]) Try.func34 rfl Try.ntmps34 rfl rfl ?_))
                  refine C_seq (fun K17_ hK17_ => ?_)
                  refine C_reg ?_
                  refine S_list (T_val (v := (Value.bool false)) (x_assign rfl) ?_)
                  refine wpList_nil ?_
                  refine (X_then (hK17_ _ _ ?_))
                  clear hK17_
                  refine C_seq (fun K18_ hK18_ => ?_)
                  refine C_reg ?_
                  refine S_list (T_val (v := (Value.string q.key)) (x_move rfl) ?_)
                  refine S_list (T_val (v := (Value.int .i64 (q.key.size : Int))) (x_lenT rfl Try.underlying9) ?_)
                  refine S_list (T_val (v := (Value.bool (decide ((q.key.size : Int) ≤ 64)))) (x_bin rfl rfl rfl) ?_)
                  refine S_list (T_val (v := (Value.bool (decide ((q.key.size : Int) ≤ 64)))) (x_assign rfl) ?_)
                  refine wpList_nil ?_
                  refine (X_then (hK18_ _ _ ?_))
                  clear hK18_
                  refine C_ret ?_
                  refine R_any (v := (Value.bool (decide ((q.key.size : Int) ≤ 64)))) (run_results1 rfl rfl) ⟨_, rfl, ?_⟩
                  refine S_list (T_pickT (v := (Value.bool (decide ((q.key.size : Int) ≤ 64)))) (congrArg Value.bool c16_t) rfl ?_)
                  refine S_list (T_val (v := (Value.bool (decide ((q.key.size : Int) ≤ 64)))) (x_move rfl) ?_)
                  rcases Bool.eq_false_or_eq_true (decide ((q.key.size : Int) ≤ 64)) with c19_t | c19_f
                  · have c19_tp : (q.key.size : Int) ≤ 64 := of_decide_eq_true c19_t
                    refine S_yes (j := 21) (dj := 58) (b := true) rfl rfl (congrArg Value.bool c19_t) (T_val (v := (Value.pointer (some ⟨b2_, 2, none⟩))) (by kernel_rfl) ?_)
                    refine S_yes (j := 21) (dj := 58) (b := true) rfl rfl (congrArg Value.bool c19_t) (T_val (v := (Value.string q.en)) (x_load1 rfl Try.underlying9 rfl ((Holds.rd H4_ 0 rfl) 2 (Value.string q.en) rfl)) ?_)
                    refine S_yes (j := 21) (dj := 58) (b := true) rfl rfl (congrArg Value.bool c19_t) (T_callW (al := [(Value.string q.en)]) rfl rfl cb34 (Calls.into (n := 6) (al := [(Value.string q.en)]) Try.func34 rfl Try.ntmps34 rfl rfl ?_))
                    refine C_seq (fun K20_ hK20_ => ?_)
                    refine C_reg ?_
                    refine S_list (T_val (v := (Value.bool false)) (x_assign rfl) ?_)
                    refine wpList_nil ?_
                    refine (X_then (hK20_ _ _ ?_))
                    clear hK20_
                    refine C_seq (fun K21_ hK21_ => ?_)
                    refine C_reg ?_
                    refine S_list (T_val (v := (Value.string q.en)) (x_move rfl) ?_)
                    refine S_list (T_val (v := (Value.int .i64 (q.en.size : Int))) (x_lenT rfl Try.underlying9) ?_)
                    refine S_list (T_val (v := (Value.bool (decide ((q.en.size : Int) ≤ 64)))) (x_bin rfl rfl rfl) ?_)
                    refine S_list (T_val (v := (Value.bool (decide ((q.en.size : Int) ≤ 64)))) (x_assign rfl) ?_)
                    refine wpList_nil ?_
                    refine (X_then (hK21_ _ _ ?_))
                    clear hK21_
                    refine C_ret ?_
                    refine R_any (v := (Value.bool (decide ((q.en.size : Int) ≤ 64)))) (run_results1 rfl rfl) ⟨_, rfl, ?_⟩
                    refine S_list (T_pickT (v := (Value.bool (decide ((q.en.size : Int) ≤ 64)))) (congrArg Value.bool c19_t) rfl ?_)
                    refine S_list (T_val (v := (Value.bool (decide ((q.en.size : Int) ≤ 64)))) (x_assign rfl) ?_)
                    refine wpList_nil ?_
                    refine (X_then (hK13_ _ _ ?_))
                    clear hK13_
                    refine C_ret ?_
                    refine R_any (v := (Value.bool (decide ((q.en.size : Int) ≤ 64)))) (run_results1 rfl rfl) ?_
                    have H22_ : Holds w3_ (ro R :: F) := (Holds.erase (Holds.bring H4_ 1 rfl) 1)
                    exact ⟨_, [], rfl, ⟨⟨_, rfl⟩, rfl⟩, S6_, H22_⟩
                  · have c19_fp : ¬ ((q.key.size : Int) ≤ 64) := of_decide_eq_false c19_f
                    refine S_no (j := 21) (dj := 58) (b := false) rfl rfl (congrArg Value.bool c19_f) (by decide) ?_
                    refine S_no (j := 21) (dj := 58) (b := false) rfl rfl (congrArg Value.bool c19_f) (by decide) ?_
                    refine S_no (j := 21) (dj := 58) (b := false) rfl rfl (congrArg Value.bool c19_f) (by decide) ?_
                    refine S_list (T_pickF (v := (Value.bool false)) (congrArg Value.bool c19_f) rfl ?_)
                    refine S_list (T_val (v := (Value.bool false)) (x_assign rfl) ?_)
                    refine wpList_nil ?_
                    refine (X_then (hK13_ _ _ ?_))
                    clear hK13_
                    refine C_ret ?_
                    refine R_any (v := (Value.bool false)) (run_results1 rfl rfl) ?_
                    have H23_ : Holds w3_ (ro R :: F) := (Holds.erase (Holds.bring H4_ 1 rfl) 1)
                    exact ⟨_, [], rfl, ⟨⟨_, rfl⟩, rfl⟩, S6_, H23_⟩
                · have c16_fp : ¬ (-1048576 ≤ q.limit) := of_decide_eq_false c16_f
                  refine S_no (j := 16) (dj := 53) (b := false) rfl rfl (congrArg Value.bool c16_f) (by decide) ?_
                  refine S_no (j := 16) (dj := 53) (b := false) rfl rfl (congrArg Value.bool c16_f) (by decide) ?_
                  refine S_no (j := 16) (dj := 53) (b := false) rfl rfl (congrArg Value.bool c16_f) (by decide) ?_
                  refine S_list (T_pickF (v := (Value.bool false)) (congrArg Value.bool c16_f) rfl ?_)
                  refine S_list (T_val (v := (Value.bool false)) (x_move rfl) ?_)
                  refine S_no (j := 21) (dj := 58) (b := false) rfl rfl rfl (by decide) ?_
                  refine S_no (j := 21) (dj := 58) (b := false) rfl rfl rfl (by decide) ?_
                  refine S_no (j := 21) (dj := 58) (b := false) rfl rfl rfl (by decide) ?_
                  refine S_list (T_pickF (v := (Value.bool false)) rfl rfl ?_)
                  refine S_list (T_val (v := (Value.bool false)) (x_assign rfl) ?_)
                  refine wpList_nil ?_
                  refine (X_then (hK13_ _ _ ?_))
                  clear hK13_
                  refine C_ret ?_
                  refine R_any (v := (Value.bool false)) (run_results1 rfl rfl) ?_
                  have H24_ : Holds w3_ (ro R :: F) := (Holds.erase (Holds.bring H4_ 1 rfl) 1)
                  exact ⟨_, [], rfl, ⟨⟨_, rfl⟩, rfl⟩, S6_, H24_⟩
              · have c15_fp : ¬ (q.limit ≤ 1048576) := of_decide_eq_false c15_f
                refine S_no (j := 11) (dj := 48) (b := false) rfl rfl (congrArg Value.bool c15_f) (by decide) ?_
                refine S_no (j := 11) (dj := 48) (b := false) rfl rfl (congrArg Value.bool c15_f) (by decide) ?_
                refine S_no (j := 11) (dj := 48) (b := false) rfl rfl (congrArg Value.bool c15_f) (by decide) ?_
                refine S_list (T_pickF (v := (Value.bool false)) (congrArg Value.bool c15_f) rfl ?_)
                refine S_list (T_val (v := (Value.bool false)) (x_move rfl) ?_)
                refine S_no (j := 16) (dj := 53) (b := false) rfl rfl rfl (by decide) ?_
                refine S_no (j := 16) (dj := 53) (b := false) rfl rfl rfl (by decide) ?_
                refine S_no (j := 16) (dj := 53) (b := false) rfl rfl rfl (by decide) ?_
                refine S_list (T_pickF (v := (Value.bool false)) rfl rfl ?_)
                refine S_list (T_val (v := (Value.bool false)) (x_move rfl) ?_)
                refine S_no (j := 21) (dj := 58) (b := false) rfl rfl rfl (by decide) ?_
                refine S_no (j := 21) (dj := 58) (b := false) rfl rfl rfl (by decide) ?_
                refine S_no (j := 21) (dj := 58) (b := false) rfl rfl rfl (by decide) ?_
                refine S_list (T_pickF (v := (Value.bool false)) rfl rfl ?_)
                refine S_list (T_val (v := (Value.bool false)) (x_assign rfl) ?_)
                refine wpList_nil ?_
                refine (X_then (hK13_ _ _ ?_))
                clear hK13_
                refine C_ret ?_
                refine R_any (v := (Value.bool false)) (run_results1 rfl rfl) ?_
                have H25_ : Holds w3_ (ro R :: F) := (Holds.erase (Holds.bring H4_ 1 rfl) 1)
                exact ⟨_, [], rfl, ⟨⟨_, rfl⟩, rfl⟩, S6_, H25_⟩
            · have c14_fp : ¬ (0 ≤ q.rev) := of_decide_eq_false c14_f
              refine S_no (j := 6) (dj := 43) (b := false) rfl rfl (congrArg Value.bool c14_f) (by decide) ?_
              refine S_no (j := 6) (dj := 43) (b := false) rfl rfl (congrArg Value.bool c14_f) (by decide) ?_
              refine S_no (j := 6) (dj := 43) (b := false) rfl rfl (congrArg Value.bool c14_f) (by decide) ?_
              refine S_list (T_pickF (v := (Value.bool false)) (congrArg Value.bool c14_f) rfl ?_)
              refine S_list (T_val (v := (Value.bool false)) (x_move rfl) ?_)
              refine S_no (j := 11) (dj := 48) (b := false) rfl rfl rfl (by decide) ?_
              refine S_no (j := 11) (dj := 48) (b := false) rfl rfl rfl (by decide) ?_
              refine S_no (j := 11) (dj := 48) (b := false) rfl rfl rfl (by decide) ?_
              refine S_list (T_pickF (v := (Value.bool false)) rfl rfl ?_)
              refine S_list (T_val (v := (Value.bool false)) (x_move rfl) ?_)
              refine S_no (j := 16) (dj := 53) (b := false) rfl rfl rfl (by decide) ?_
              refine S_no (j := 16) (dj := 53) (b := false) rfl rfl rfl (by decide) ?_
              refine S_no (j := 16) (dj := 53) (b := false) rfl rfl rfl (by decide) ?_
              refine S_list (T_pickF (v := (Value.bool false)) rfl rfl ?_)
              refine S_list (T_val (v := (Value.bool false)) (x_move rfl) ?_)
              refine S_no (j := 21) (dj := 58) (b := false) rfl rfl rfl (by decide) ?_
              refine S_no (j := 21) (dj := 58) (b := false) rfl rfl rfl (by decide) ?_
              refine S_no (j := 21) (dj := 58) (b := false) rfl rfl rfl (by decide) ?_
              refine S_list (T_pickF (v := (Value.bool false)) rfl rfl ?_)
              refine S_list (T_val (v := (Value.bool false)) (x_assign rfl) ?_)
              refine wpList_nil ?_
              refine (X_then (hK13_ _ _ ?_))
              clear hK13_
              refine C_ret ?_
              refine R_any (v := (Value.bool false)) (run_results1 rfl rfl) ?_
              have H26_ : Holds w3_ (ro R :: F) := (Holds.erase (Holds.bring H4_ 1 rfl) 1)
              exact ⟨_, [], rfl, ⟨⟨_, rfl⟩, rfl⟩, S6_, H26_⟩
          · have c12_fp : ¬ (0 < q.order) := of_decide_eq_false c12_f
            refine S_yes (j := 22) (dj := 26) (b := false) rfl rfl (congrArg Value.bool c12_f) (T_val (v := (Value.pointer (some ⟨b2_, 8, none⟩))) (by kernel_rfl) ?_)
            refine S_yes (j := 22) (dj := 26) (b := false) rfl rfl (congrArg Value.bool c12_f) (T_val (v := (Value.int .i64 q.target)) (x_load1 rfl Try.underlying3 rfl ((Holds.rd H4_ 0 rfl) 8 (Value.int .i64 q.target) rfl)) ?_)
            refine S_yes (j := 22) (dj := 26) (b := false) rfl rfl (congrArg Value.bool c12_f) (T_val (v := (Value.bool (decide (q.target = 0)))) (x_bin rfl rfl rfl) ?_)
            refine S_yes (j := 18) (dj := 22) (b := true) rfl rfl (congrArg Value.bool c11_t) (T_pickF (v := (Value.bool (decide (q.target = 0)))) (congrArg Value.bool c12_f) rfl ?_)
            refine S_yes (j := 18) (dj := 22) (b := true) rfl rfl (congrArg Value.bool c11_t) (T_val (v := (Value.bool (decide (q.target = 0)))) (x_move rfl) ?_)
            rcases Bool.eq_false_or_eq_true (decide (q.target = 0)) with c27_t | c27_f
            · have c27_tp : q.target = 0 := of_decide_eq_true c27_t
              refine S_no (j := 27) (dj := 31) (b := true) rfl rfl (congrArg Value.bool c27_t) (by decide) ?_
              refine S_no (j := 27) (dj := 31) (b := true) rfl rfl (congrArg Value.bool c27_t) (by decide) ?_
              refine S_no (j := 27) (dj := 31) (b := true) rfl rfl (congrArg Value.bool c27_t) (by decide) ?_
              refine S_yes (j := 18) (dj := 22) (b := true) rfl rfl (congrArg Value.bool c11_t) (T_pickT (v := (Value.bool true)) (congrArg Value.bool c27_t) rfl ?_)
              refine S_list (T_pickT (v := (Value.bool true)) (congrArg Value.bool c11_t) rfl ?_)
              refine S_list (T_val (v := (Value.bool true)) (x_assign rfl) ?_)
              refine wpList_nil ?_
              refine (X_then (hK7_ _ _ ?_))
              clear hK7_
              refine C_seq (fun K28_ hK28_ => ?_)
              refine C_reg ?_
              refine S_list (T_val (v := (Value.bool true)) (x_move rfl) ?_)
              refine S_list (T_val (v := (Value.bool true)) (x_move rfl) ?_)
              refine S_yes (j := 1) (dj := 38) (b := true) rfl rfl rfl (T_val (v := (Value.pointer (some ⟨b2_, 5, none⟩))) (by kernel_rfl) ?_)
              refine S_yes (j := 1) (dj := 38) (b := true) rfl rfl rfl (T_val (v := (Value.int .i64 q.rev)) (x_load1 rfl Try.underlying2 rfl ((Holds.rd H4_ 0 rfl) 5 (Value.int .i64 q.rev) rfl)) ?_)
              refine S_yes (j := 1) (dj := 38) (b := true) rfl rfl rfl (T_val (v := (Value.bool (decide (0 ≤ q.rev)))) (x_bin rfl rfl rfl) ?_)
              refine S_list (T_pickT (v := (Value.bool (decide (0 ≤ q.rev)))) rfl rfl ?_)
              refine S_list (T_val (v := (Value.bool (decide (0 ≤ q.rev)))) (x_move rfl) ?_)
              rcases Bool.eq_false_or_eq_true (decide (0 ≤ q.rev)) with c29_t | c29_f
              · have c29_tp : 0 ≤ q.rev := of_decide_eq_true c29_t
                refine S_yes (j := 6) (dj := 43) (b := true) rfl rfl (congrArg Value.bool c29_t) (T_val (v := (Value.pointer (some ⟨b2_, 6, none⟩))) (by kernel_rfl) ?_)
                refine S_yes (j := 6) (dj := 43) (b := true) rfl rfl (congrArg Value.bool c29_t) (T_val (v := (Value.int .i64 q.limit)) (x_load1 rfl Try.underlying2 rfl ((Holds.rd H4_ 0 rfl) 6 (Value.int .i64 q.limit) rfl)) ?_)
                refine S_yes (j := 6) (dj := 43) (b := true) rfl rfl (congrArg Value.bool c29_t) (T_val (v := (Value.bool (decide (q.limit ≤ 1048576)))) (x_bin rfl rfl rfl) ?_)
                refine S_list (T_pickT (v := (Value.bool (decide (q.limit ≤ 1048576)))) (congrArg Value.bool c29_t) rfl ?_)
                refine S_list (T_val (v := (Value.bool (decide (q.limit ≤ 1048576)))) (x_move rfl) ?_)
                rcases Bool.eq_false_or_eq_true (decide (q.limit ≤ 1048576)) with c30_t | c30_f
                · have c30_tp : q.limit ≤ 1048576 := of_decide_eq_true c30_t
                  refine S_yes (j := 11) (dj := 48) (b := true) rfl rfl (congrArg Value.bool c30_t) (T_val (v := (Value.pointer (some ⟨b2_, 6, none⟩))) (by kernel_rfl) ?_)
                  refine S_yes (j := 11) (dj := 48) (b := true) rfl rfl (congrArg Value.bool c30_t) (T_val (v := (Value.int .i64 q.limit)) (x_load1 rfl Try.underlying2 rfl ((Holds.rd H4_ 0 rfl) 6 (Value.int .i64 q.limit) rfl)) ?_)
                  refine S_yes (j := 11) (dj := 48) (b := true) rfl rfl (congrArg Value.bool c30_t) (T_val (v := (Value.bool (decide (-1048576 ≤ q.limit)))) (x_bin rfl rfl rfl) ?_)
                  refine S_list (T_pickT (v := (Value.bool (decide (-1048576 ≤ q.limit)))) (congrArg Value.bool c30_t) rfl ?_)
                  refine S_list (T_val (v := (Value.bool (decide (-1048576 ≤ q.limit)))) (x_move rfl) ?_)
                  rcases Bool.eq_false_or_eq_true (decide (-1048576 ≤ q.limit)) with c31_t | c31_f
                  · have c31_tp : -1048576 ≤ q.limit := of_decide_eq_true c31_t
                    refine S_yes (j := 16) (dj := 53) (b := true) rfl rfl (congrArg Value.bool c31_t) (T_val (v := (Value.pointer (some ⟨b2_, 1, none⟩))) (by kernel_rfl) ?_)
                    refine S_yes (j := 16) (dj := 53) (b := true) rfl rfl (congrArg Value.bool c31_t) (T_val (v := (Value.string q.key)) (x_load1 rfl Try.underlying9 rfl ((Holds.rd H4_ 0 rfl) 1 (Value.string q.key) rfl)) ?_)
                    refine S_yes (j := 16) (dj := 53) (b := true) rfl rfl (congrArg Value.bool c31_t) (T_callW (al := [(Value.string q.key)]) rfl rfl cb34 (Calls.into (n := 6) (al := [(Value.string q.key)]) Try.func34 rfl Try.ntmps34 rfl rfl ?_))
                    refine C_seq (fun K32_ hK32_ => ?_)
                    refine C_reg ?_
                    refine S_list (T_val (v := (Value.bool false)) (x_assign rfl) ?_)
                    refine wpList_nil ?_
                    refine (X_then (hK32_ _ _ ?_))
                    clear hK32_
                    refine C_seq (fun K33_ hK33_ => ?_)
                    refine C_reg ?_
                    refine S_list (T_val (v := (Value.string q.key)) (x_move rfl) ?_)
                    refine S_list (T_val (v := (Value.int .i64 (q.key.size : Int))) (x_lenT rfl Try.underlying9) ?_)
                    refine S_list (T_val (v := (Value.bool (decide ((q.key.size : Int) ≤ 64)))) (x_bin rfl rfl rfl) ?_)
                    refine S_list (T_val (v := (Value.bool (decide ((q.key.size : Int) ≤ 64)))) (x_assign rfl) ?_)
                    refine wpList_nil ?_
                    refine (X_then (hK33_ _ _ ?_))
                    clear hK33_
                    refine C_ret ?_
                    refine R_any (v := (Value.bool (decide ((q.key.size : Int) ≤ 64)))) (run_results1 rfl rfl) ⟨_, rfl, ?_⟩
                    refine S_list (T_pickT (v := (Value.bool (decide ((q.key.size : Int) ≤ 64)))) (congrArg Value.bool c31_t) rfl ?_)
                    refine S_list (T_val (v := (Value.bool (decide ((q.key.size : Int) ≤ 64)))) (x_move rfl) ?_)
                    rcases Bool.eq_false_or_eq_true (decide ((q.key.size : Int) ≤ 64)) with c34_t | c34_f
                    · have c34_tp : (q.key.size : Int) ≤ 64 := of_decide_eq_true c34_t
                      refine S_yes (j := 21) (dj := 58) (b := true) rfl rfl (congrArg Value.bool c34_t) (T_val (v := (Value.pointer (some ⟨b2_, 2, none⟩))) (by kernel_rfl) ?_)
                      refine S_yes (j := 21) (dj := 58) (b := true) rfl rfl (congrArg Value.bool c34_t) (T_val (v := (Value.string q.en)) (x_load1 rfl Try.underlying9 rfl ((Holds.rd H4_ 0 rfl) 2 (Value.string q.en) rfl)) ?_)
                      refine S_yes (j := 21) (dj := 58) (b := true) rfl rfl (congrArg Value.bool c34_t) (T_callW (al := [(Value.string q.en)]) rfl rfl cb34 (Calls.into (n := 6) (al := [(Value.string q.en)]) Try.func34 rfl Try.ntmps34 rfl rfl ?_))
                      refine C_seq (fun K35_ hK35_ => ?_)
                      refine C_reg ?_
                      refine S_list (T_val (v := (Value.bool false)) (x_assign rfl) ?_)
                      refine wpList_nil ?_
                      refine (X_then (hK35_ _ _ ?_))
                      clear hK35_
                      refine C_seq (fun K36_ hK36_ => ?_)
                      refine C_reg ?_
                      refine S_list (T_val (v := (Value.string q.en)) (x_move rfl) ?_)
                      refine S_list (T_val (v := (Value.int .i64 (q.en.size : Int))) (x_lenT rfl Try.underlying9) ?_)
                      refine S_list (T_val (v := (Value.bool (decide ((q.en.size : Int) ≤ 64)))) (x_bin rfl rfl rfl) ?_)
                      refine S_list (T_val (v := (Value.bool (decide ((q.en.size : Int) ≤ 64)))) (x_assign rfl) ?_)
                      refine wpList_nil ?_
                      refine (X_then (hK36_ _ _ ?_))
                      clear hK36_
                      refine C_ret ?_
                      refine R_any (v := (Value.bool (decide ((q.en.size : Int) ≤ 64)))) (run_results1 rfl rfl) ⟨_, rfl, ?_⟩
                      refine S_list (T_pickT (v := (Value.bool (decide ((q.en.size : Int) ≤ 64)))) (congrArg Value.bool c34_t) rfl ?_)
                      refine S_list (T_val (v := (Value.bool (decide ((q.en.size : Int) ≤ 64)))) (x_assign rfl) ?_)
                      refine wpList_nil ?_
                      refine (X_then (hK28_ _ _ ?_))
                      clear hK28_
                      refine C_ret ?_
                      refine R_any (v := (Value.bool (decide ((q.en.size : Int) ≤ 64)))) (run_results1 rfl rfl) ?_
                      have H37_ : Holds w3_ (ro R :: F) := (Holds.erase (Holds.bring H4_ 1 rfl) 1)
                      exact ⟨_, [], rfl, ⟨⟨_, rfl⟩, rfl⟩, S6_, H37_⟩
                    · have c34_fp : ¬ ((q.key.size : Int) ≤ 64) := of_decide_eq_false c34_f
                      refine S_no (j := 21) (dj := 58) (b := false) rfl rfl (congrArg Value.bool c34_f) (by decide) ?_
                      refine S_no (j := 21) (dj := 58) (b := false) rfl rfl (congrArg Value.bool c34_f) (by decide) ?_
                      refine S_no (j := 21) (dj := 58) (b := false) rfl rfl (congrArg Value.bool c34_f) (by decide) ?_
                      refine S_list (T_pickF (v := (Value.bool false)) (congrArg Value.bool c34_f) rfl ?_)
                      refine S_list (T_val (v := (Value.bool false)) (x_assign rfl) ?_)
                      refine wpList_nil ?_
                      refine (X_then (hK28_ _ _ ?_))
                      clear hK28_
                      refine C_ret ?_
                      refine R_any (v := (Value.bool false)) (run_results1 rfl rfl) ?_
                      have H38_ : Holds w3_ (ro R :: F) := (Holds.erase (Holds.bring H4_ 1 rfl) 1)
                      exact ⟨_, [], rfl, ⟨⟨_, rfl⟩, rfl⟩, S6_, H38_⟩
                  · have c31_fp : ¬ (-1048576 ≤ q.limit) := of_decide_eq_false c31_f
                    refine S_no (j := 16) (dj := 53) (b := false) rfl rfl (congrArg Value.bool c31_f) (by decide) ?_
                    refine S_no (j := 16) (dj := 53) (b := false) rfl rfl (congrArg Value.bool c31_f) (by decide) ?_
                    refine S_no (j := 16) (dj := 53) (b := false) rfl rfl (congrArg Value.bool c31_f) (by decide) ?_
                    refine S_list (T_pickF (v := (Value.bool false)) (congrArg Value.bool c31_f) rfl ?_)
                    refine S_list (T_val (v := (Value.bool false)) (x_move rfl) ?_)
                    refine S_no (j := 21) (dj := 58) (b := false) rfl rfl rfl (by decide) ?_
                    refine S_no (j := 21) (dj := 58) (b := false) rfl rfl rfl (by decide) ?_
                    refine S_no (j := 21) (dj := 58) (b := false) rfl rfl rfl (by decide) ?_
                    refine S_list (T_pickF (v := (Value.bool false)) rfl rfl ?_)
                    refine S_list (T_val (v := (Value.bool false)) (x_assign rfl) ?_)
                    refine wpList_nil ?_
                    refine (X_then (hK28_ _ _ ?_))
                    clear hK28_
                    refine C_ret ?_
                    refine R_any (v := (Value.bool false)) (run_results1 rfl rfl) ?_
                    have H39_ : Holds w3_ (ro R :: F) := (Holds.erase (Holds.bring H4_ 1 rfl) 1)
                    exact ⟨_, [], rfl, ⟨⟨_, rfl⟩, rfl⟩, S6_, H39_⟩
                · have c30_fp : ¬ (q.limit ≤ 1048576) := of_decide_eq_false c30_f
                  refine S_no (j := 11) (dj := 48) (b := false) rfl rfl (congrArg Value.bool c30_f) (by decide) ?_
                  refine S_no (j := 11) (dj := 48) (b := false) rfl rfl (congrArg Value.bool c30_f) (by decide) ?_
                  refine S_no (j := 11) (dj := 48) (b := false) rfl rfl (congrArg Value.bool c30_f) (by decide) ?_
                  refine S_list (T_pickF (v := (Value.bool false)) (congrArg Value.bool c30_f) rfl ?_)
                  refine S_list (T_val (v := (Value.bool false)) (x_move rfl) ?_)
                  refine S_no (j := 16) (dj := 53) (b := false) rfl rfl rfl (by decide) ?_
                  refine S_no (j := 16) (dj := 53) (b := false) rfl rfl rfl (by decide) ?_
                  refine S_no (j := 16) (dj := 53) (b := false) rfl rfl rfl (by decide) ?_
                  refine S_list (T_pickF (v := (Value.bool false)) rfl rfl ?_)
                  refine S_list (T_val (v := (Value.bool false)) (x_move rfl) ?_)
                  refine S_no (j := 21) (dj := 58) (b := false) rfl rfl rfl (by decide) ?_
                  refine S_no (j := 21) (dj := 58) (b := false) rfl rfl rfl (by decide) ?_
                  refine S_no (j := 21) (dj := 58) (b := false) rfl rfl rfl (by decide) ?_
                  refine S_list (T_pickF (v := (Value.bool false)) rfl rfl ?_)
                  refine S_list (T_val (v := (Value.bool false)) (x_assign rfl) ?_)
                  refine wpList_nil ?_
                  refine (X_then (hK28_ _ _ ?_))
                  clear hK28_
                  refine C_ret ?_
                  refine R_any (v := (Value.bool false)) (run_results1 rfl rfl) ?_
                  have H40_ : Holds w3_ (ro R :: F) := (Holds.erase (Holds.bring H4_ 1 rfl) 1)
                  exact ⟨_, [], rfl, ⟨⟨_, rfl⟩, rfl⟩, S6_, H40_⟩
              · have c29_fp : ¬ (0 ≤ q.rev) := of_decide_eq_false c29_f
                refine S_no (j := 6) (dj := 43) (b := false) rfl rfl (congrArg Value.bool c29_f) (by decide) ?_
                refine S_no (j := 6) (dj := 43) (b := false) rfl rfl (congrArg Value.bool c29_f) (by decide) ?_
                refine S_no (j := 6) (dj := 43) (b := false) rfl rfl (congrArg Value.bool c29_f) (by decide) ?_
                refine S_list (T_pickF (v := (Value.bool false)) (congrArg Value.bool c29_f) rfl ?_)
                refine S_list (T_val (v := (Value.bool false)) (x_move rfl) ?_)
                refine S_no (j := 11) (dj := 48) (b := false) rfl rfl rfl (by decide) ?_
                refine S_no (j := 11) (dj := 48) (b := false) rfl rfl rfl (by decide) ?_
                refine S_no (j := 11) (dj := 48) (b := false) rfl rfl rfl (by decide) ?_
                refine S_list (T_pickF (v := (Value.bool false)) rfl rfl ?_)
                refine S_list (T_val (v := (Value.bool false)) (x_move rfl) ?_)
                refine S_no (j := 16) (dj := 53) (b := false) rfl rfl rfl (by decide) ?_
                refine S_no (j := 16) (dj := 53) (b := false) rfl rfl rfl (by decide) ?_
                refine S_no (j := 16) (dj := 53) (b := false) rfl rfl rfl (by decide) ?_
                refine S_list (T_pickF (v := (Value.bool false)) rfl rfl ?_)
                refine S_list (T_val (v := (Value.bool false)) (x_move rfl) ?_)
                refine S_no (j := 21) (dj := 58) (b := false) rfl rfl rfl (by decide) ?_
                refine S_no (j := 21) (dj := 58) (b := false) rfl rfl rfl (by decide) ?_
                refine S_no (j := 21) (dj := 58) (b := false) rfl rfl rfl (by decide) ?_
                refine S_list (T_pickF (v := (Value.bool false)) rfl rfl ?_)
                refine S_list (T_val (v := (Value.bool false)) (x_assign rfl) ?_)
                refine wpList_nil ?_
                refine (X_then (hK28_ _ _ ?_))
                clear hK28_
                refine C_ret ?_
                refine R_any (v := (Value.bool false)) (run_results1 rfl rfl) ?_
                have H41_ : Holds w3_ (ro R :: F) := (Holds.erase (Holds.bring H4_ 1 rfl) 1)
                exact ⟨_, [], rfl, ⟨⟨_, rfl⟩, rfl⟩, S6_, H41_⟩
            · have c27_fp : ¬ (q.target = 0) := of_decide_eq_false c27_f
              refine S_yes (j := 27) (dj := 31) (b := false) rfl rfl (congrArg Value.bool c27_f) (T_val (v := (Value.pointer (some ⟨b2_, 6, none⟩))) (by kernel_rfl) ?_)
              refine S_yes (j := 27) (dj := 31) (b := false) rfl rfl (congrArg Value.bool c27_f) (T_val (v := (Value.int .i64 q.limit)) (x_load1 rfl Try.underlying2 rfl ((Holds.rd H4_ 0 rfl) 6 (Value.int .i64 q.limit) rfl)) ?_)
              refine S_yes (j := 27) (dj := 31) (b := false) rfl rfl (congrArg Value.bool c27_f) (T_val (v := (Value.bool (decide (q.limit ≤ 0)))) (x_bin rfl rfl rfl) ?_)
              refine S_yes (j := 18) (dj := 22) (b := true) rfl rfl (congrArg Value.bool c11_t) (T_pickF (v := (Value.bool (decide (q.limit ≤ 0)))) (congrArg Value.bool c27_f) rfl ?_)
              refine S_list (T_pickT (v := (Value.bool (decide (q.limit ≤ 0)))) (congrArg Value.bool c11_t) rfl ?_)
              refine S_list (T_val (v := (Value.bool (decide (q.limit ≤ 0)))) (x_assign rfl) ?_)
              refine wpList_nil ?_
              refine (X_then (hK7_ _ _ ?_))
              clear hK7_
              refine C_seq (fun K42_ hK42_ => ?_)
              refine C_reg ?_
              refine S_list (T_val (v := (Value.bool (decide (q.limit ≤ 0)))) (x_move rfl) ?_)
              refine S_list (T_val (v := (Value.bool (decide (q.limit ≤ 0)))) (x_move rfl) ?_)
              rcases Bool.eq_false_or_eq_true (decide (q.limit ≤ 0)) with c43_t | c43_f
              · have c43_tp : q.limit ≤ 0 := of_decide_eq_true c43_t
                refine S_yes (j := 1) (dj := 38) (b := true) rfl rfl (congrArg Value.bool c43_t) (T_val (v := (Value.pointer (some ⟨b2_, 5, none⟩))) (by kernel_rfl) ?_)
                refine S_yes (j := 1) (dj := 38) (b := true) rfl rfl (congrArg Value.bool c43_t) (T_val (v := (Value.int .i64 q.rev)) (x_load1 rfl Try.underlying2 rfl ((Holds.rd H4_ 0 rfl) 5 (Value.int .i64 q.rev) rfl)) ?_)
                refine S_yes (j := 1) (dj := 38) (b := true) rfl rfl (congrArg Value.bool c43_t) (T_val (v := (Value.bool (decide (0 ≤ q.rev)))) (x_bin rfl rfl rfl) ?_)
                refine S_list (T_pickT (v := (Value.bool (decide (0 ≤ q.rev)))) (congrArg Value.bool c43_t) rfl ?_)
                refine S_list (T_val (v := (Value.bool (decide (0 ≤ q.rev)))) (x_move rfl) ?_)
                rcases Bool.eq_false_or_eq_true (decide (0 ≤ q.rev)) with c44_t | c44_f
                · have c44_tp : 0 ≤ q.rev := of_decide_eq_true c44_t
                  refine S_yes (j := 6) (dj := 43) (b := true) rfl rfl (congrArg Value.bool c44_t) (T_val (v := (Value.pointer (some ⟨b2_, 6, none⟩))) (by kernel_rfl) ?_)
                  refine S_yes (j := 6) (dj := 43) (b := true) rfl rfl (congrArg Value.bool c44_t) (T_val (v := (Value.int .i64 q.limit)) (x_load1 rfl Try.underlying2 rfl ((Holds.rd H4_ 0 rfl) 6 (Value.int .i64 q.limit) rfl)) ?_)
                  refine S_yes (j := 6) (dj := 43) (b := true) rfl rfl (congrArg Value.bool c44_t) (T_val (v := (Value.bool (decide (q.limit ≤ 1048576)))) (x_bin rfl rfl rfl) ?_)
                  refine S_list (T_pickT (v := (Value.bool (decide (q.limit ≤ 1048576)))) (congrArg Value.bool c44_t) rfl ?_)
                  refine S_list (T_val (v := (Value.bool (decide (q.limit ≤ 1048576)))) (x_move rfl) ?_)
                  rcases Bool.eq_false_or_eq_true (decide (q.limit ≤ 1048576)) with c45_t | c45_f
                  · have c45_tp : q.limit ≤ 1048576 := of_decide_eq_true c45_t
                    refine S_yes (j := 11) (dj := 48) (b := true) rfl rfl (congrArg Value.bool c45_t) (T_val (v := (Value.pointer (some ⟨b2_, 6, none⟩))) (by kernel_rfl) ?_)
                    refine S_yes (j := 11) (dj := 48) (b := true) rfl rfl (congrArg Value.bool c45_t) (T_val (v := (Value.int .i64 q.limit)) (x_load1 rfl Try.underlying2 rfl ((Holds.rd H4_ 0 rfl) 6 (Value.int .i64 q.limit) rfl)) ?_)
                    refine S_yes (j := 11) (dj := 48) (b := true) rfl rfl (congrArg Value.bool c45_t) (T_val (v := (Value.bool (decide (-1048576 ≤ q.limit)))) (x_bin rfl rfl rfl) ?_)
                    refine S_list (T_pickT (v := (Value.bool (decide (-1048576 ≤ q.limit)))) (congrArg Value.bool c45_t) rfl ?_)
                    refine S_list (T_val (v := (Value.bool (decide (-1048576 ≤ q.limit)))) (x_move rfl) ?_)
                    rcases Bool.eq_false_or_eq_true (decide (-1048576 ≤ q.limit)) with c46_t | c46_f
                    · have c46_tp : -1048576 ≤ q.limit := of_decide_eq_true c46_t
                      refine S_yes (j := 16) (dj := 53) (b := true) rfl rfl (congrArg Value.bool c46_t) (T_val (v := (Value.pointer (some ⟨b2_, 1, none⟩))) (by kernel_rfl) ?_)
                      refine S_yes (j := 16) (dj := 53) (b := true) rfl rfl (congrArg Value.bool c46_t) (T_val (v := (Value.string q.key)) (x_load1 rfl Try.underlying9 rfl ((Holds.rd H4_ 0 rfl) 1 (Value.string q.key) rfl)) ?_)
                      refine S_yes (j := 16) (dj := 53) (b := true) rfl rfl (congrArg Value.bool c46_t) (T_callW (al := [(Value.string q.key)]) rfl rfl cb34 (Calls.into (n := 6) (al := [(Value.string q.key)]) Try.func34 rfl Try.ntmps34 rfl rfl ?_))
                      refine C_seq (fun K47_ hK47_ => ?_)
                      refine C_reg ?_
                      refine S_list (T_val (v := (Value.bool false)) (x_assign rfl) ?_)
                      refine wpList_nil ?_
                      refine (X_then (hK47_ _ _ ?_))
                      clear hK47_
                      refine C_seq (fun K48_ hK48_ => ?_)
                      refine C_reg ?_
                      refine S_list (T_val (v := (Value.string q.key)) (x_move rfl) ?_)
                      refine S_list (T_val (v := (Value.int .i64 (q.key.size : Int))) (x_lenT rfl Try.underlying9) ?_)
                      refine S_list (T_val (v := (Value.bool (decide ((q.key.size : Int) ≤ 64)))) (x_bin rfl rfl rfl) ?_)
                      refine S_list (T_val (v := (Value.bool (decide ((q.key.size : Int) ≤ 64)))) (x_assign rfl) ?_)
                      refine wpList_nil ?_
                      refine (X_then (hK48_ _ _ ?_))
                      clear hK48_
                      refine C_ret ?_
                      refine R_any (v := (Value.bool (decide ((q.key.size : Int) ≤ 64)))) (run_results1 rfl rfl) ⟨_, rfl, ?_⟩
                      refine S_list (T_pickT (v := (Value.bool (decide ((q.key.size : Int) ≤ 64)))) (congrArg Value.bool c46_t) rfl ?_)
                      refine S_list (T_val (v := (Value.bool (decide ((q.key.size : Int) ≤ 64)))) (x_move rfl) ?_)
                      rcases Bool.eq_false_or_eq_true (decide ((q.key.size : Int) ≤ 64)) with c49_t | c49_f
                      · have c49_tp : (q.key.size : Int) ≤ 64 := of_decide_eq_true c49_t
                        refine S_yes (j := 21) (dj := 58) (b := true) rfl rfl (congrArg Value.bool c49_t) (T_val (v := (Value.pointer (some ⟨b2_, 2, none⟩))) (by kernel_rfl) ?_)
                        refine S_yes (j := 21) (dj := 58) (b := true) rfl rfl (congrArg Value.bool c49_t) (T_val (v := (Value.string q.en)) (x_load1 rfl Try.underlying9 rfl ((Holds.rd H4_ 0 rfl) 2 (Value.string q.en) rfl)) ?_)
                        refine S_yes (j := 21) (dj := 58) (b := true) rfl rfl (congrArg Value.bool c49_t) (T_callW (al := [(Value.string q.en)]) rfl rfl cb34 (Calls.into (n := 6) (al := [(Value.string q.en)]) Try.func34 rfl Try.ntmps34 rfl rfl ?_))
                        refine C_seq (fun K50_ hK50_ => ?_)
                        refine C_reg ?_
                        refine S_list (T_val (v := (Value.bool false)) (x_assign rfl) ?_)
                        refine wpList_nil ?_
                        refine (X_then (hK50_ _ _ ?_))
                        clear hK50_
                        refine C_seq (fun K51_ hK51_ => ?_)
                        refine C_reg ?_
                        refine S_list (T_val (v := (Value.string q.en)) (x_move rfl) ?_)
                        refine S_list (T_val (v := (Value.int .i64 (q.en.size : Int))) (x_lenT rfl Try.underlying9) ?_)
                        refine S_list (T_val (v := (Value.bool (decide ((q.en.size : Int) ≤ 64)))) (x_bin rfl rfl rfl) ?_)
                        refine S_list (T_val (v := (Value.bool (decide ((q.en.size : Int) ≤ 64)))) (x_assign rfl) ?_)
                        refine wpList_nil ?_
                        refine (X_then (hK51_ _ _ ?_))
                        clear hK51_
                        refine C_ret ?_
                        refine R_any (v := (Value.bool (decide ((q.en.size : Int) ≤ 64)))) (run_results1 rfl rfl) ⟨_, rfl, ?_⟩
                        refine S_list (T_pickT (v := (Value.bool (decide ((q.en.size : Int) ≤ 64)))) (congrArg Value.bool c49_t) rfl ?_)
                        refine S_list (T_val (v := (Value.bool (decide ((q.en.size : Int) ≤ 64)))) (x_assign rfl) ?_)
                        refine wpList_nil ?_
                        refine (X_then (hK42_ _ _ ?_))
                        clear hK42_
                        refine C_ret ?_
                        refine R_any (v := (Value.bool (decide ((q.en.size : Int) ≤ 64)))) (run_results1 rfl rfl) ?_
                        have H52_ : Holds w3_ (ro R :: F) := (Holds.erase (Holds.bring H4_ 1 rfl) 1)
                        exact ⟨_, [], rfl, ⟨⟨_, rfl⟩, rfl⟩, S6_, H52_⟩
                      · have c49_fp : ¬ ((q.key.size : Int) ≤ 64) := of_decide_eq_false c49_f
                        refine S_no (j := 21) (dj := 58) (b := false) rfl rfl (congrArg Value.bool c49_f) (by decide) ?_
                        refine S_no (j := 21) (dj := 58) (b := false) rfl rfl (congrArg Value.bool c49_f) (by decide) ?_
                        refine S_no (j := 21) (dj := 58) (b := false) rfl rfl (congrArg Value.bool c49_f) (by decide) ?_
                        refine S_list (T_pickF (v := (Value.bool false)) (congrArg Value.bool c49_f) rfl ?_)
                        refine S_list (T_val (v := (Value.bool false)) (x_assign rfl) ?_)
                        refine wpList_nil ?_
                        refine (X_then (hK42_ _ _ ?_))
                        clear hK42_
                        refine C_ret ?_
                        refine R_any (v := (Value.bool false)) (run_results1 rfl rfl) ?_
                        have H53_ : Holds w3_ (ro R :: F) := (Holds.erase (Holds.bring H4_ 1 rfl) 1)
                        exact ⟨_, [], rfl, ⟨⟨_, rfl⟩, rfl⟩, S6_, H53_⟩
                    · have c46_fp : ¬ (-1048576 ≤ q.limit) := of_decide_eq_false c46_f
                      refine S_no (j := 16) (dj := 53) (b := false) rfl rfl (congrArg Value.bool c46_f) (by decide) ?_
                      refine S_no (j := 16) (dj := 53) (b := false) rfl rfl (congrArg Value.bool c46_f) (by decide) ?_
                      refine S_no (j := 16) (dj := 53) (b := false) rfl rfl (congrArg Value.bool c46_f) (by decide) ?_
                      refine S_list (T_pickF (v := (Value.bool false)) (congrArg Value.bool c46_f) rfl ?_)
                      refine S_list (T_val (v := (Value.bool false)) (x_move rfl) ?_)
                      refine S_no (j := 21) (dj := 58) (b := false) rfl rfl rfl (by decide) ?_
                      refine S_no (j := 21) (dj := 58) (b := false) rfl rfl rfl (by decide) ?_
                      refine S_no (j := 21) (dj := 58) (b := false) rfl rfl rfl (by decide) ?_
                      refine S_list (T_pickF (v := (Value.bool false)) rfl rfl ?_)
                      refine S_list (T_val (v := (Value.bool false)) (x_assign rfl) ?_)
                      refine wpList_nil ?_
                      refine (X_then (hK42_ _ _ ?_))
                      clear hK42_
                      refine C_ret ?_
                      refine R_any (v := (Value.bool false)) (run_results1 rfl rfl) ?_
                      have H54_ : Holds w3_ (ro R :: F) := (Holds.erase (Holds.bring H4_ 1 rfl) 1)
                      exact ⟨_, [], rfl, ⟨⟨_, rfl⟩, rfl⟩, S6_, H54_⟩
                  · have c45_fp : ¬ (q.limit ≤ 1048576) := of_decide_eq_false c45_f
                    refine S_no (j := 11) (dj := 48) (b := false) rfl rfl (congrArg Value.bool c45_f) (by decide) ?_
                    refine S_no (j := 11) (dj := 48) (b := false) rfl rfl (congrArg Value.bool c45_f) (by decide) ?_
                    refine S_no (j := 11) (dj := 48) (b := false) rfl rfl (congrArg Value.bool c45_f) (by decide) ?_
                    refine S_list (T_pickF (v := (Value.bool false)) (congrArg Value.bool c45_f) rfl ?_)
                    refine S_list (T_val (v := (Value.bool false)) (x_move rfl) ?_)
                    refine S_no (j := 16) (dj := 53) (b := false) rfl rfl rfl (by decide) ?_
                    refine S_no (j := 16) (dj := 53) (b := false) rfl rfl rfl (by decide) ?_
                    refine S_no (j := 16) (dj := 53) (b := false) rfl rfl rfl (by decide) ?_
                    refine S_list (T_pickF (v := (Value.bool false)) rfl rfl ?_)
                    refine S_list (T_val (v := (Value.bool false)) (x_move rfl) ?_)
                    refine S_no (j := 21) (dj := 58) (b := false) rfl rfl rfl (by decide) ?_
                    refine S_no (j := 21) (dj := 58) (b := false) rfl rfl rfl (by decide) ?_
                    refine S_no (j := 21) (dj := 58) (b := false) rfl rfl rfl (by decide) ?_
                    refine S_list (T_pickF (v := (Value.bool false)) rfl rfl ?_)
                    refine S_list (T_val (v := (Value.bool false)) (x_assign rfl) ?_)
                    refine wpList_nil ?_
                    refine (X_then (hK42_ _ _ ?_))
                    clear hK42_
                    refine C_ret ?_
                    refine R_any (v := (Value.bool false)) (run_results1 rfl rfl) ?_
                    have H55_ : Holds w3_ (ro R :: F) := (Holds.erase (Holds.bring H4_ 1 rfl) 1)
                    exact ⟨_, [], rfl, ⟨⟨_, rfl⟩, rfl⟩, S6_, H55_⟩
                · have c44_fp : ¬ (0 ≤ q.rev) := of_decide_eq_false c44_f
                  refine S_no (j := 6) (dj := 43) (b := false) rfl rfl (congrArg Value.bool c44_f) (by decide) ?_
                  refine S_no (j := 6) (dj := 43) (b := false) rfl rfl (congrArg Value.bool c44_f) (by decide) ?_
                  refine S_no (j := 6) (dj := 43) (b := false) rfl rfl (congrArg Value.bool c44_f) (by decide) ?_
                  refine S_list (T_pickF (v := (Value.bool false)) (congrArg Value.bool c44_f) rfl ?_)
                  refine S_list (T_val (v := (Value.bool false)) (x_move rfl) ?_)
                  refine S_no (j := 11) (dj := 48) (b := false) rfl rfl rfl (by decide) ?_
                  refine S_no (j := 11) (dj := 48) (b := false) rfl rfl rfl (by decide) ?_
                  refine S_no (j := 11) (dj := 48) (b := false) rfl rfl rfl (by decide) ?_
                  refine S_list (T_pickF (v := (Value.bool false)) rfl rfl ?_)
                  refine S_list (T_val (v := (Value.bool false)) (x_move rfl) ?_)
                  refine S_no (j := 16) (dj := 53) (b := false) rfl rfl rfl (by decide) ?_
                  refine S_no (j := 16) (dj := 53) (b := false) rfl rfl rfl (by decide) ?_
                  refine S_no (j := 16) (dj := 53) (b := false) rfl rfl rfl (by decide) ?_
                  refine S_list (T_pickF (v := (Value.bool false)) rfl rfl ?_)
                  refine S_list (T_val (v := (Value.bool false)) (x_move rfl) ?_)
                  refine S_no (j := 21) (dj := 58) (b := false) rfl rfl rfl (by decide) ?_
                  refine S_no (j := 21) (dj := 58) (b := false) rfl rfl rfl (by decide) ?_
                  refine S_no (j := 21) (dj := 58) (b := false) rfl rfl rfl (by decide) ?_
                  refine S_list (T_pickF (v := (Value.bool false)) rfl rfl ?_)
                  refine S_list (T_val (v := (Value.bool false)) (x_assign rfl) ?_)
                  refine wpList_nil ?_
                  refine (X_then (hK42_ _ _ ?_))
                  clear hK42_
                  refine C_ret ?_
                  refine R_any (v := (Value.bool false)) (run_results1 rfl rfl) ?_
                  have H56_ : Holds w3_ (ro R :: F) := (Holds.erase (Holds.bring H4_ 1 rfl) 1)
                  exact ⟨_, [], rfl, ⟨⟨_, rfl⟩, rfl⟩, S6_, H56_⟩
              · have c43_fp : ¬ (q.limit ≤ 0) := of_decide_eq_false c43_f
                refine S_no (j := 1) (dj := 38) (b := false) rfl rfl (congrArg Value.bool c43_f) (by decide) ?_
                refine S_no (j := 1) (dj := 38) (b := false) rfl rfl (congrArg Value.bool c43_f) (by decide) ?_
                refine S_no (j := 1) (dj := 38) (b := false) rfl rfl (congrArg Value.bool c43_f) (by decide) ?_
                refine S_list (T_pickF (v := (Value.bool false)) (congrArg Value.bool c43_f) rfl ?_)
                refine S_list (T_val (v := (Value.bool false)) (x_move rfl) ?_)
                refine S_no (j := 6) (dj := 43) (b := false) rfl rfl rfl (by decide) ?_
                refine S_no (j := 6) (dj := 43) (b := false) rfl rfl rfl (by decide) ?_
                refine S_no (j := 6) (dj := 43) (b := false) rfl rfl rfl (by decide) ?_
                refine S_list (T_pickF (v := (Value.bool false)) rfl rfl ?_)
                refine S_list (T_val (v := (Value.bool false)) (x_move rfl) ?_)
                refine S_no (j := 11) (dj := 48) (b := false) rfl rfl rfl (by decide) ?_
                refine S_no (j := 11) (dj := 48) (b := false) rfl rfl rfl (by decide) ?_
                refine S_no (j := 11) (dj := 48) (b := false) rfl rfl rfl (by decide) ?_
                refine S_list (T_pickF (v := (Value.bool false)) rfl rfl ?_)
                refine S_list (T_val (v := (Value.bool false)) (x_move rfl) ?_)
                refine S_no (j := 16) (dj := 53) (b := false) rfl rfl rfl (by decide) ?_
                refine S_no (j := 16) (dj := 53) (b := false) rfl rfl rfl (by decide) ?_
                refine S_no (j := 16) (dj := 53) (b := false) rfl rfl rfl (by decide) ?_
                refine S_list (T_pickF (v := (Value.bool false)) rfl rfl ?_)
                refine S_list (T_val (v := (Value.bool false)) (x_move rfl) ?_)
                refine S_no (j := 21) (dj := 58) (b := false) rfl rfl rfl (by decide) ?_
                refine S_no (j := 21) (dj := 58) (b := false) rfl rfl rfl (by decide) ?_
                refine S_no (j := 21) (dj := 58) (b := false) rfl rfl rfl (by decide) ?_
                refine S_list (T_pickF (v := (Value.bool false)) rfl rfl ?_)
                refine S_list (T_val (v := (Value.bool false)) (x_assign rfl) ?_)
                refine wpList_nil ?_
                refine (X_then (hK42_ _ _ ?_))
                clear hK42_
                refine C_ret ?_
                refine R_any (v := (Value.bool false)) (run_results1 rfl rfl) ?_
                have H57_ : Holds w3_ (ro R :: F) := (Holds.erase (Holds.bring H4_ 1 rfl) 1)
                exact ⟨_, [], rfl, ⟨⟨_, rfl⟩, rfl⟩, S6_, H57_⟩
        · have c11_fp : ¬ (q.target ≤ 4) := of_decide_eq_false c11_f
          refine S_no (j := 18) (dj := 22) (b := false) rfl rfl (congrArg Value.bool c11_f) (by decide) ?_
          refine S_no (j := 18) (dj := 22) (b := false) rfl rfl (congrArg Value.bool c11_f) (by decide) ?_
          refine S_no (j := 18) (dj := 22) (b := false) rfl rfl (congrArg Value.bool c11_f) (by decide) ?_
          refine S_no (j := 18) (dj := 22) (b := false) rfl rfl (congrArg Value.bool c11_f) (by decide) ?_
          refine S_noU (j := 22) (dj := 26) rfl rfl rfl ?_
          refine S_noU (j := 22) (dj := 26) rfl rfl rfl ?_
          refine S_noU (j := 22) (dj := 26) rfl rfl rfl ?_
          refine S_no (j := 18) (dj := 22) (b := false) rfl rfl (congrArg Value.bool c11_f) (by decide) ?_
          refine S_no (j := 18) (dj := 22) (b := false) rfl rfl (congrArg Value.bool c11_f) (by decide) ?_
          refine S_noU (j := 27) (dj := 31) rfl rfl rfl ?_
          refine S_noU (j := 27) (dj := 31) rfl rfl rfl ?_
          refine S_noU (j := 27) (dj := 31) rfl rfl rfl ?_
          refine S_no (j := 18) (dj := 22) (b := false) rfl rfl (congrArg Value.bool c11_f) (by decide) ?_
          refine S_list (T_pickF (v := (Value.bool false)) (congrArg Value.bool c11_f) rfl ?_)
          refine S_list (T_val (v := (Value.bool false)) (x_assign rfl) ?_)
          refine wpList_nil ?_
          refine (X_then (hK7_ _ _ ?_))
          clear hK7_
          refine C_seq (fun K58_ hK58_ => ?_)
          refine C_reg ?_
          refine S_list (T_val (v := (Value.bool false)) (x_move rfl) ?_)
          refine S_list (T_val (v := (Value.bool false)) (x_move rfl) ?_)
          refine S_no (j := 1) (dj := 38) (b := false) rfl rfl rfl (by decide) ?_
          refine S_no (j := 1) (dj := 38) (b := false) rfl rfl rfl (by decide) ?_
          refine S_no (j := 1) (dj := 38) (b := false) rfl rfl rfl (by decide) ?_
          refine S_list (T_pickF (v := (Value.bool false)) rfl rfl ?_)
          refine S_list (T_val (v := (Value.bool false)) (x_move rfl) ?_)
          refine S_no (j := 6) (dj := 43) (b := false) rfl rfl rfl (by decide) ?_
          refine S_no (j := 6) (dj := 43) (b := false) rfl rfl rfl (by decide) ?_
          refine S_no (j := 6) (dj := 43) (b := false) rfl rfl rfl (by decide) ?_
          refine S_list (T_pickF (v := (Value.bool false)) rfl rfl ?_)
          refine S_list (T_val (v := (Value.bool false)) (x_move rfl) ?_)
          refine S_no (j := 11) (dj := 48) (b := false) rfl rfl rfl (by decide) ?_
          refine S_no (j := 11) (dj := 48) (b := false) rfl rfl rfl (by decide) ?_
          refine S_no (j := 11) (dj := 48) (b := false) rfl rfl rfl (by decide) ?_
          refine S_list (T_pickF (v := (Value.bool false)) rfl rfl ?_)
          refine S_list (T_val (v := (Value.bool false)) (x_move rfl) ?_)
          refine S_no (j := 16) (dj := 53) (b := false) rfl rfl rfl (by decide) ?_
          refine S_no (j := 16) (dj := 53) (b := false) rfl rfl rfl (by decide) ?_
          refine S_no (j := 16) (dj := 53) (b := false) rfl rfl rfl (by decide) ?_
          refine S_list (T_pickF (v := (Value.bool false)) rfl rfl ?_)
          refine S_list (T_val (v := (Value.bool false)) (x_move rfl) ?_)
          refine S_no (j := 21) (dj := 58) (b := false) rfl rfl rfl (by decide) ?_
          refine S_no (j := 21) (dj := 58) (b := false) rfl rfl rfl (by decide) ?_
          refine S_no (j := 21) (dj := 58) (b := false) rfl rfl rfl (by decide) ?_
          refine S_list (T_pickF (v := (Value.bool false)) rfl rfl ?_)
          refine S_list (T_val (v := (Value.bool false)) (x_assign rfl) ?_)
          refine wpList_nil ?_
          refine (X_then (hK58_ _ _ ?_))
          clear hK58_
          refine C_ret ?_
          refine R_any (v := (Value.bool false)) (run_results1 rfl rfl) ?_
          have H59_ : Holds w3_ (ro R :: F) := (Holds.erase (Holds.bring H4_ 1 rfl) 1)
          exact ⟨_, [], rfl, ⟨⟨_, rfl⟩, rfl⟩, S6_, H59_⟩
      · have c10_fp : ¬ (0 ≤ q.target) := of_decide_eq_false c10_f
        refine S_no (j := 13) (dj := 17) (b := false) rfl rfl (congrArg Value.bool c10_f) (by decide) ?_
        refine S_no (j := 13) (dj := 17) (b := false) rfl rfl (congrArg Value.bool c10_f) (by decide) ?_
        refine S_no (j := 13) (dj := 17) (b := false) rfl rfl (congrArg Value.bool c10_f) (by decide) ?_
        refine S_list (T_pickF (v := (Value.bool false)) (congrArg Value.bool c10_f) rfl ?_)
        refine S_list (T_val (v := (Value.bool false)) (x_move rfl) ?_)
        refine S_no (j := 18) (dj := 22) (b := false) rfl rfl rfl (by decide) ?_
        refine S_no (j := 18) (dj := 22) (b := false) rfl rfl rfl (by decide) ?_
        refine S_no (j := 18) (dj := 22) (b := false) rfl rfl rfl (by decide) ?_
        refine S_no (j := 18) (dj := 22) (b := false) rfl rfl rfl (by decide) ?_
        refine S_noU (j := 22) (dj := 26) rfl rfl rfl ?_
        refine S_noU (j := 22) (dj := 26) rfl rfl rfl ?_
        refine S_noU (j := 22) (dj := 26) rfl rfl rfl ?_
        refine S_no (j := 18) (dj := 22) (b := false) rfl rfl rfl (by decide) ?_
        refine S_no (j := 18) (dj := 22) (b := false) rfl rfl rfl (by decide) ?_
        refine S_noU (j := 27) (dj := 31) rfl rfl rfl ?_
        refine S_noU (j := 27) (dj := 31) rfl rfl rfl ?_
        refine S_noU (j := 27) (dj := 31) rfl rfl rfl ?_
        refine S_no (j := 18) (dj := 22) (b := false) rfl rfl rfl (by decide) ?_
        refine S_list (T_pickF (v := (Value.bool false)) rfl rfl ?_)
        refine S_list (T_val (v := (Value.bool false)) (x_assign rfl) ?_)
        refine wpList_nil ?_
        refine (X_then (hK7_ _ _ ?_))
        clear hK7_
        refine C_seq (fun K60_ hK60_ => ?_)
        refine C_reg ?_
        refine S_list (T_val (v := (Value.bool false)) (x_move rfl) ?_)
        refine S_list (T_val (v := (Value.bool false)) (x_move rfl) ?_)
        refine S_no (j := 1) (dj := 38) (b := false) rfl rfl rfl (by decide) ?_
        refine S_no (j := 1) (dj := 38) (b := false) rfl rfl rfl (by decide) ?_
        refine S_no (j := 1) (dj := 38) (b := false) rfl rfl rfl (by decide) ?_
        refine S_list (T_pickF (v := (Value.bool false)) rfl rfl ?_)
        refine S_list (T_val (v := (Value.bool false)) (x_move rfl) ?_)
        refine S_no (j := 6) (dj := 43) (b := false) rfl rfl rfl (by decide) ?_
        refine S_no (j := 6) (dj := 43) (b := false) rfl rfl rfl (by decide) ?_
        refine S_no (j := 6) (dj := 43) (b := false) rfl rfl rfl (by decide) ?_
        refine S_list (T_pickF (v := (Value.bool false)) rfl rfl ?_)
        refine S_list (T_val (v := (Value.bool false)) (x_move rfl) ?_)
        refine S_no (j := 11) (dj := 48) (b := false) rfl rfl rfl (by decide) ?_
        refine S_no (j := 11) (dj := 48) (b := false) rfl rfl rfl (by decide) ?_
        refine S_no (j := 11) (dj := 48) (b := false) rfl rfl rfl (by decide) ?_
        refine S_list (T_pickF (v := (Value.bool false)) rfl rfl ?_)
        refine S_list (T_val (v := (Value.bool false)) (x_move rfl) ?_)
        refine S_no (j := 16) (dj := 53) (b := false) rfl rfl rfl (by decide) ?_
        refine S_no (j := 16) (dj := 53) (b := false) rfl rfl rfl (by decide) ?_
        refine S_no (j := 16) (dj := 53) (b := false) rfl rfl rfl (by decide) ?_
        refine S_list (T_pickF (v := (Value.bool false)) rfl rfl ?_)
        refine S_list (T_val (v := (Value.bool false)) (x_move rfl) ?_)
        refine S_no (j := 21) (dj := 58) (b := false) rfl rfl rfl (by decide) ?_
        refine S_no (j := 21) (dj := 58) (b := false) rfl rfl rfl (by decide) ?_
        refine S_no (j := 21) (dj := 58) (b := false) rfl rfl rfl (by decide) ?_
        refine S_list (T_pickF (v := (Value.bool false)) rfl rfl ?_)
        refine S_list (T_val (v := (Value.bool false)) (x_assign rfl) ?_)
        refine wpList_nil ?_
        refine (X_then (hK60_ _ _ ?_))
        clear hK60_
        refine C_ret ?_
        refine R_any (v := (Value.bool false)) (run_results1 rfl rfl) ?_
        have H61_ : Holds w3_ (ro R :: F) := (Holds.erase (Holds.bring H4_ 1 rfl) 1)
        exact ⟨_, [], rfl, ⟨⟨_, rfl⟩, rfl⟩, S6_, H61_⟩
    · have c9_fp : ¬ (q.order ≤ 2) := of_decide_eq_false c9_f
      refine S_no (j := 8) (dj := 12) (b := false) rfl rfl (congrArg Value.bool c9_f) (by decide) ?_
      refine S_no (j := 8) (dj := 12) (b := false) rfl rfl (congrArg Value.bool c9_f) (by decide) ?_
      refine S_no (j := 8) (dj := 12) (b := false) rfl rfl (congrArg Value.bool c9_f) (by decide) ?_
      refine S_list (T_pickF (v := (Value.bool false)) (congrArg Value.bool c9_f) rfl ?_)
      refine S_list (T_val (v := (Value.bool false)) (x_move rfl) ?_)
      refine S_no (j := 13) (dj := 17) (b := false) rfl rfl rfl (by decide) ?_
      refine S_no (j := 13) (dj := 17) (b := false) rfl rfl rfl (by decide) ?_
      refine S_no (j := 13) (dj := 17) (b := false) rfl rfl rfl (by decide) ?_
      refine S_list (T_pickF (v := (Value.bool false)) rfl rfl ?_)
      refine S_list (T_val (v := (Value.bool false)) (x_move rfl) ?_)
      refine S_no (j := 18) (dj := 22) (b := false) rfl rfl rfl (by decide) ?_
      refine S_no (j := 18) (dj := 22) (b := false) rfl rfl rfl (by decide) ?_
      refine S_no (j := 18) (dj := 22) (b := false) rfl rfl rfl (by decide) ?_
      refine S_no (j := 18) (dj := 22) (b := false) rfl rfl rfl (by decide) ?_
      refine S_noU (j := 22) (dj := 26) rfl rfl rfl ?_
      refine S_noU (j := 22) (dj := 26) rfl rfl rfl ?_
      refine S_noU (j := 22) (dj := 26) rfl rfl rfl ?_
      refine S_no (j := 18) (dj := 22) (b := false) rfl rfl rfl (by decide) ?_
      refine S_no (j := 18) (dj := 22) (b := false) rfl rfl rfl (by decide) ?_
      refine S_noU (j := 27) (dj := 31) rfl rfl rfl ?_
      refine S_noU (j := 27) (dj := 31) rfl rfl rfl ?_
      refine S_noU (j := 27) (dj := 31) rfl rfl rfl ?_
      refine S_no (j := 18) (dj := 22) (b := false) rfl rfl rfl (by decide) ?_
      refine S_list (T_pickF (v := (Value.bool false)) rfl rfl ?_)
      refine S_list (T_val (v := (Value.bool false)) (x_assign rfl) ?_)
      refine wpList_nil ?_
      refine (X_then (hK7_ _ _ ?_))
      clear hK7_
      refine C_seq (fun K62_ hK62_ => ?_)
      refine C_reg ?_
      refine S_list (T_val (v := (Value.bool false)) (x_move rfl) ?_)
      refine S_list (T_val (v := (Value.bool false)) (x_move rfl) ?_)
      refine S_no (j := 1) (dj := 38) (b := false) rfl rfl rfl (by decide) ?_
      refine S_no (j := 1) (dj := 38) (b := false) rfl rfl rfl (by decide) ?_
      refine S_no (j := 1) (dj := 38) (b := false) rfl rfl rfl (by decide) ?_
      refine S_list (T_pickF (v := (Value.bool false)) rfl rfl ?_)
      refine S_list (T_val (v := (Value.bool false)) (x_move rfl) ?_)
      refine S_no (j := 6) (dj := 43) (b := false) rfl rfl rfl (by decide) ?_
      refine S_no (j := 6) (dj := 43) (b := false) rfl rfl rfl (by decide) ?_
      refine S_no (j := 6) (dj := 43) (b := false) rfl rfl rfl (by decide) ?_
      refine S_list (T_pickF (v := (Value.bool false)) rfl rfl ?_)
      refine S_list (T_val (v := (Value.bool false)) (x_move rfl) ?_)
      refine S_no (j := 11) (dj := 48) (b := false) rfl rfl rfl (by decide) ?_
      refine S_no (j := 11) (dj := 48) (b := false) rfl rfl rfl (by decide) ?_
      refine S_no (j := 11) (dj := 48) (b := false) rfl rfl rfl (by decide) ?_
      refine S_list (T_pickF (v := (Value.bool false)) rfl rfl ?_)
      refine S_list (T_val (v := (Value.bool false)) (x_move rfl) ?_)
      refine S_no (j := 16) (dj := 53) (b := false) rfl rfl rfl (by decide) ?_
      refine S_no (j := 16) (dj := 53) (b := false) rfl rfl rfl (by decide) ?_
      refine S_no (j := 16) (dj := 53) (b := false) rfl rfl rfl (by decide) ?_
      refine S_list (T_pickF (v := (Value.bool false)) rfl rfl ?_)
      refine S_list (T_val (v := (Value.bool false)) (x_move rfl) ?_)
      refine S_no (j := 21) (dj := 58) (b := false) rfl rfl rfl (by decide) ?_
      refine S_no (j := 21) (dj := 58) (b := false) rfl rfl rfl (by decide) ?_
      refine S_no (j := 21) (dj := 58) (b := false) rfl rfl rfl (by decide) ?_
      refine S_list (T_pickF (v := (Value.bool false)) rfl rfl ?_)
      refine S_list (T_val (v := (Value.bool false)) (x_assign rfl) ?_)
      refine wpList_nil ?_
      refine (X_then (hK62_ _ _ ?_))
      clear hK62_
      refine C_ret ?_
      refine R_any (v := (Value.bool false)) (run_results1 rfl rfl) ?_
      have H63_ : Holds w3_ (ro R :: F) := (Holds.erase (Holds.bring H4_ 1 rfl) 1)
      exact ⟨_, [], rfl, ⟨⟨_, rfl⟩, rfl⟩, S6_, H63_⟩
  · have c8_fp : ¬ (0 ≤ q.order) := of_decide_eq_false c8_f
    refine S_no (j := 3) (dj := 7) (b := false) rfl rfl (congrArg Value.bool c8_f) (by decide) ?_
    refine S_no (j := 3) (dj := 7) (b := false) rfl rfl (congrArg Value.bool c8_f) (by decide) ?_
    refine S_no (j := 3) (dj := 7) (b := false) rfl rfl (congrArg Value.bool c8_f) (by decide) ?_
    refine S_list (T_pickF (v := (Value.bool false)) (congrArg Value.bool c8_f) rfl ?_)
    refine S_list (T_val (v := (Value.bool false)) (x_move rfl) ?_)
    refine S_no (j := 8) (dj := 12) (b := false) rfl rfl rfl (by decide) ?_
    refine S_no (j := 8) (dj := 12) (b := false) rfl rfl rfl (by decide) ?_
    refine S_no (j := 8) (dj := 12) (b := false) rfl rfl rfl (by decide) ?_
    refine S_list (T_pickF (v := (Value.bool false)) rfl rfl ?_)
    refine S_list (T_val (v := (Value.bool false)) (x_move rfl) ?_)
    refine S_no (j := 13) (dj := 17) (b := false) rfl rfl rfl (by decide) ?_
    refine S_no (j := 13) (dj := 17) (b := false) rfl rfl rfl (by decide) ?_
    refine S_no (j := 13) (dj := 17) (b := false) rfl rfl rfl (by decide) ?_
    refine S_list (T_pickF (v := (Value.bool false)) rfl rfl ?_)
    refine S_list (T_val (v := (Value.bool false)) (x_move rfl) ?_)
    refine S_no (j := 18) (dj := 22) (b := false) rfl rfl rfl (by decide) ?_
    refine S_no (j := 18) (dj := 22) (b := false) rfl rfl rfl (by decide) ?_
    refine S_no (j := 18) (dj := 22) (b := false) rfl rfl rfl (by decide) ?_
    refine S_no (j := 18) (dj := 22) (b := false) rfl rfl rfl (by decide) ?_
    refine S_noU (j := 22) (dj := 26) rfl rfl rfl ?_
    refine S_noU (j := 22) (dj := 26) rfl rfl rfl ?_
    refine S_noU (j := 22) (dj := 26) rfl rfl rfl ?_
    refine S_no (j := 18) (dj := 22) (b := false) rfl rfl rfl (by decide) ?_
    refine S_no (j := 18) (dj := 22) (b := false) rfl rfl rfl (by decide) ?_
    refine S_noU (j := 27) (dj := 31) rfl rfl rfl ?_
    refine S_noU (j := 27) (dj := 31) rfl rfl rfl ?_
    refine S_noU (j := 27) (dj := 31) rfl rfl rfl ?_
    refine S_no (j := 18) (dj := 22) (b := false) rfl rfl rfl (by decide) ?_
    refine S_list (T_pickF (v := (Value.bool false)) rfl rfl ?_)
    refine S_list (T_val (v := (Value.bool false)) (x_assign rfl) ?_)
    refine wpList_nil ?_
    refine (X_then (hK7_ _ _ ?_))
    clear hK7_
    refine C_seq (fun K64_ hK64_ => ?_)
    refine C_reg ?_
    refine S_list (T_val (v := (Value.bool false)) (x_move rfl) ?_)
    refine S_list (T_val (v := (Value.bool false)) (x_move rfl) ?_)
    refine S_no (j := 1) (dj := 38) (b := false) rfl rfl rfl (by decide) ?_
    refine S_no (j := 1) (dj := 38) (b := false) rfl rfl rfl (by decide) ?_
    refine S_no (j := 1) (dj := 38) (b := false) rfl rfl rfl (by decide) ?_
    refine S_list (T_pickF (v := (Value.bool false)) rfl rfl ?_)
    refine S_list (T_val (v := (Value.bool false)) (x_move rfl) ?_)
    refine S_no (j := 6) (dj := 43) (b := false) rfl rfl rfl (by decide) ?_
    refine S_no (j := 6) (dj := 43) (b := false) rfl rfl rfl (by decide) ?_
    refine S_no (j := 6) (dj := 43) (b := false) rfl rfl rfl (by decide) ?_
    refine S_list (T_pickF (v := (Value.bool false)) rfl rfl ?_)
    refine S_list (T_val (v := (Value.bool false)) (x_move rfl) ?_)
    refine S_no (j := 11) (dj := 48) (b := false) rfl rfl rfl (by decide) ?_
    refine S_no (j := 11) (dj := 48) (b := false) rfl rfl rfl (by decide) ?_
    refine S_no (j := 11) (dj := 48) (b := false) rfl rfl rfl (by decide) ?_
    refine S_list (T_pickF (v := (Value.bool false)) rfl rfl ?_)
    refine S_list (T_val (v := (Value.bool false)) (x_move rfl) ?_)
    refine S_no (j := 16) (dj := 53) (b := false) rfl rfl rfl (by decide) ?_
    refine S_no (j := 16) (dj := 53) (b := false) rfl rfl rfl (by decide) ?_
    refine S_no (j := 16) (dj := 53) (b := false) rfl rfl rfl (by decide) ?_
    refine S_list (T_pickF (v := (Value.bool false)) rfl rfl ?_)
    refine S_list (T_val (v := (Value.bool false)) (x_move rfl) ?_)
    refine S_no (j := 21) (dj := 58) (b := false) rfl rfl rfl (by decide) ?_
    refine S_no (j := 21) (dj := 58) (b := false) rfl rfl rfl (by decide) ?_
    refine S_no (j := 21) (dj := 58) (b := false) rfl rfl rfl (by decide) ?_
    refine S_list (T_pickF (v := (Value.bool false)) rfl rfl ?_)
    refine S_list (T_val (v := (Value.bool false)) (x_assign rfl) ?_)
    refine wpList_nil ?_
    refine (X_then (hK64_ _ _ ?_))
    clear hK64_
    refine C_ret ?_
    refine R_any (v := (Value.bool false)) (run_results1 rfl rfl) ?_
    have H65_ : Holds w3_ (ro R :: F) := (Holds.erase (Holds.bring H4_ 1 rfl) 1)
    exact ⟨_, [], rfl, ⟨⟨_, rfl⟩, rfl⟩, S6_, H65_⟩

set_option maxHeartbeats 400000 in
theorem kFits9 (R : HP) (v : Value) (cc : List CmpS) (hR : RS R 7 v cc.length (cc.flatMap CmpS.cells)) :
    Tri Try.prog 40 #[v] R [] (fun v post => (∃ b : Bool, v = .bool b) ∧ post = []) := by
  refine Tri.into (n := 18) (al := [v]) Try.func40 rfl Try.ntmps40 rfl rfl fun w F H => ?_
  replace H : Holds w (ro R :: F) := H
  refine C_seq (fun K1_ hK1_ => ?_)
  refine C_reg ?_
  refine S_list (T_val (v := (Value.bool false)) (x_assign rfl) ?_)
  refine wpList_nil ?_
  refine (X_then (hK1_ _ _ ?_))
  clear hK1_
  refine C_seq (fun K2_ hK2_ => ?_)
  refine C_seq (fun K3_ hK3_ => ?_)
  refine C_reg ?_
  refine S_list (T_val (v := v) (x_move rfl) ?_)
  refine S_list (T_val (v := (Value.int .i64 (cc.length : Int))) (x_lenRS rfl hR Try.underlying37) ?_)
  refine S_list (T_val (v := (Value.bool (decide (2147483647 < (cc.length : Int))))) (x_bin rfl rfl rfl) ?_)
  refine wpList_nil ?_
  refine (X_then (hK3_ _ _ ?_))
  clear hK3_
  refine C_cond (b := decide (2147483647 < (cc.length : Int))) rfl (fun c4_t => ?_) (fun c4_f => ?_)
  · have c4_tp : 2147483647 < (cc.length : Int) := of_decide_eq_true c4_t
    refine C_seq (fun K5_ hK5_ => ?_)
    refine C_reg ?_
    refine S_list (T_val (v := (Value.bool false)) (x_assign rfl) ?_)
    refine wpList_nil ?_
    refine (X_then (hK5_ _ _ ?_))
    clear hK5_
    refine C_ret (X_thenR ?_)
    refine R_any (v := (Value.bool false)) (run_results1 rfl rfl) ?_
    exact ⟨_, [], rfl, ⟨⟨_, rfl⟩, rfl⟩, (Same.refl w), H⟩
  · have c4_fp : ¬ (2147483647 < (cc.length : Int)) := of_decide_eq_false c4_f
    refine C_skip (X_then (hK2_ _ _ ?_))
    clear hK2_
    refine C_seq (fun K6_ hK6_ => ?_)
    refine C_seq (fun K7_ hK7_ => ?_)
    refine C_reg ?_
    refine S_list (T_val (v := v) (x_move rfl) ?_)
    refine S_list (T_val (v := (Value.int .i64 (cc.length : Int))) (x_lenRS rfl hR Try.underlying37) ?_)
    refine S_list (T_val (v := (Value.int .i64 0)) (x_move rfl) ?_)
    refine wpList_nil ?_
    refine (X_then (hK7_ _ _ ?_))
    clear hK7_
    refine C_block ?_
    refine C_loop (γ := Nat) (fun k a w1 => ∃ h : Env, a = mkA 18 (upd (upd (upd h 10 (Value.int .i64 (k : Int))) 8 v) 9 (Value.int .i64 (cc.length : Int))) [] ∧ Holds w1 (ro R :: F) ∧ Same w w1 ∧ (k ≤ cc.length)) (fun k => cc.length - k) (0) ⟨_, congrArg (fun e => mkA 18 e []) (ch (ch (ch rfl (by first | rfl | exact congrArg (Value.int _) (by omega))) (by first | rfl | exact congrArg (Value.int _) (by omega))) (by first | rfl | exact congrArg (Value.int _) (by omega))), H, (Same.refl w), by omega⟩ ?_
    rintro k _ w8_ ⟨h, rfl, H9_, S10_, hk⟩
    refine C_seq (fun K11_ hK11_ => ?_)
    refine C_reg ?_
    refine S_list (T_val (v := (Value.bool (decide ((k : Int) < (cc.length : Int))))) (x_bin rfl rfl rfl) ?_)
    refine wpList_nil ?_
    refine (X_then (hK11_ _ _ ?_))
    clear hK11_
    refine C_seq (fun K12_ hK12_ => ?_)
    refine C_cond (b := decide ((k : Int) < (cc.length : Int))) rfl (fun c13_t => ?_) (fun c13_f => ?_)
    · have c13_tp : (k : Int) < (cc.length : Int) := of_decide_eq_true c13_t
      refine C_skip (X_then (hK12_ _ _ ?_))
      clear hK12_
      refine C_seq (fun K14_ hK14_ => ?_)
      refine C_block ?_
      refine C_seq (fun K15_ hK15_ => ?_)
      refine C_reg ?_
      obtain ⟨x16_, hx17_, hm18_⟩ := elem_at cc k (by omega)
      refine S_list (T_val (v := (Value.pointer (some ⟨(sb v), so v + (k * 7 + 0), none⟩))) (x_idxRS (v := v) rfl hR rfl Try.underlying37 z31 (by omega) (by omega) (by omega : _ = k) rfl) ?_)
      refine S_list (T_val (v := (Value.agg #[(Value.int .i64 x16_.T), (Value.int .i64 x16_.r), (Value.string x16_.key), (Value.string x16_.en), (Value.int .i64 x16_.n), (Value.string x16_.val), (Value.bool x16_.bare)])) (x_loadN (vs := [(Value.int .i64 x16_.T), (Value.int .i64 x16_.r), (Value.string x16_.key), (Value.string x16_.en), (Value.int .i64 x16_.n), (Value.string x16_.val), (Value.bool x16_.bare)]) rfl Try.underlying31 rfl z31 rfl (RC.cells (RS.rc hR) (Holds.ro_at H9_ 0 rfl) (k * 7 + 0) (fm_cells CmpS.len hx17_ (i := 0) rfl))) ?_)
      refine S_list (T_alloc z31 H9_ ?_)
      intro b19_ w20_ S22_ H21_
      replace H21_ : Holds w20_ (cl b19_ 31 [(Value.int .i64 0), (Value.int .i64 0), (Value.string ByteArray.empty), (Value.string ByteArray.empty), (Value.int .i64 0), (Value.string ByteArray.empty), (Value.bool false)] :: ro R :: F) := H21_
      have S23_ := Same.trans S10_ S22_
      refine S_list0 (T_storeN (vs := [(Value.int .i64 x16_.T), (Value.int .i64 x16_.r), (Value.string x16_.key), (Value.string x16_.en), (Value.int .i64 x16_.n), (Value.string x16_.val), (Value.bool x16_.bare)]) rfl rfl z31 rfl (by simp [Value.oneCell']) H21_ 0 rfl (Nat.le_of_ble_eq_true (by rfl)) ?_)
      intro w24_ S26_ H25_
      replace H25_ : Holds w24_ (cl b19_ 31 [(Value.int .i64 x16_.T), (Value.int .i64 x16_.r), (Value.string x16_.key), (Value.string x16_.en), (Value.int .i64 x16_.n), (Value.string x16_.val), (Value.bool x16_.bare)] :: ro R :: F) := H25_
      have S27_ := Same.trans S23_ S26_
      refine wpList_nil ?_
      refine (X_then (hK15_ _ _ ?_))
      clear hK15_
      refine C_seq (fun K28_ hK28_ => ?_)
      refine C_reg ?_
      refine S_list (T_val (v := (Value.agg #[(Value.int .i64 x16_.T), (Value.int .i64 x16_.r), (Value.string x16_.key), (Value.string x16_.en), (Value.int .i64 x16_.n), (Value.string x16_.val), (Value.bool x16_.bare)])) (x_loadN (vs := [(Value.int .i64 x16_.T), (Value.int .i64 x16_.r), (Value.string x16_.key), (Value.string x16_.en), (Value.int .i64 x16_.n), (Value.string x16_.val), (Value.bool x16_.bare)]) rfl Try.underlying31 rfl z31 rfl (Rd.cells (Holds.rd H25_ 0 rfl) 0 rfl)) ?_)
      have H30_ : Holds w24_ (ro R :: cl b19_ 31 [(Value.int .i64 x16_.T), (Value.int .i64 x16_.r), (Value.string x16_.key), (Value.string x16_.en), (Value.int .i64 x16_.n), (Value.string x16_.val), (Value.bool x16_.bare)] :: F) := (Holds.bring H25_ 1 rfl)
      refine S_list (T_call (al := [(Value.agg #[(Value.int .i64 x16_.T), (Value.int .i64 x16_.r), (Value.string x16_.key), (Value.string x16_.en), (Value.int .i64 x16_.n), (Value.string x16_.val), (Value.bool x16_.bare)])]) (pre := []) (F := cl b19_ 31 [(Value.int .i64 x16_.T), (Value.int .i64 x16_.r), (Value.string x16_.key), (Value.string x16_.en), (Value.int .i64 x16_.n), (Value.string x16_.val), (Value.bool x16_.bare)] :: F) rfl rfl cb12 (kFits10 R x16_) H30_ ?_)
      rintro v34_ p35_ w31_ ⟨⟨q29_, rfl⟩, rfl⟩ S33_ H32_
      replace H32_ : Holds w31_ (ro R :: cl b19_ 31 [(Value.int .i64 x16_.T), (Value.int .i64 x16_.r), (Value.string x16_.key), (Value.string x16_.en), (Value.int .i64 x16_.n), (Value.string x16_.val), (Value.bool x16_.bare)] :: F) := H32_
      have S36_ := Same.trans S27_ S33_
      refine S_list (T_val (v := (Value.bool (!q29_))) (x_not rfl) ?_)
      refine wpList_nil ?_
      refine (X_then (hK28_ _ _ ?_))
      clear hK28_
      refine C_cond (b := !q29_) rfl (fun c37_t => ?_) (fun c37_f => ?_)
      · skip
        refine C_seq (fun K38_ hK38_ => ?_)
        refine C_reg ?_
        refine S_list (T_val (v := (Value.bool false)) (x_assign rfl) ?_)
        refine wpList_nil ?_
        refine (X_then (hK38_ _ _ ?_))
        clear hK38_
        refine C_ret (X_blkR (X_thenR (X_thenR (X_blkR (X_thenR ?_)))))
        refine R_any (v := (Value.bool false)) (run_results1 rfl rfl) ?_
        have H39_ : Holds w31_ (ro R :: F) := (Holds.erase (Holds.bring H32_ 0 rfl) 1)
        exact ⟨_, [], rfl, ⟨⟨_, rfl⟩, rfl⟩, S36_, H39_⟩
      · skip
        refine C_skip (X_blkN (X_then (hK14_ _ _ ?_)))
        clear hK14_
        refine C_reg ?_
        refine S_list (T_val (v := (Value.int .i64 ((k : Int) + 1))) (x_bin rfl rfl (ib_add (IntWalk.i64_in _ (by omega)))) ?_)
        refine S_list (T_val (v := (Value.int .i64 ((k : Int) + 1))) (x_move rfl) ?_)
        refine wpList_nil ?_
        refine (X_then ?_)
        have H40_ : Holds w31_ (ro R :: F) := (Holds.erase (Holds.bring H32_ 0 rfl) 1)
        exact ⟨k + 1, ⟨_, congrArg (fun e => mkA 18 e []) (ch (ch (ch rfl (by first | rfl | exact congrArg (Value.int _) (by omega))) (by first | rfl | exact congrArg (Value.int _) (by omega))) (by first | rfl | exact congrArg (Value.int _) (by omega))), H40_, S36_, by omega⟩, by first | omega | (simp; omega)⟩
    · have c13_fp : ¬ ((k : Int) < (cc.length : Int)) := of_decide_eq_false c13_f
      refine C_exit (X_thenX (X_thenX (X_blkHit ?_)))
      refine (X_then (hK6_ _ _ ?_))
      clear hK6_
      refine C_seq (fun K41_ hK41_ => ?_)
      refine C_reg ?_
      refine S_list (T_val (v := (Value.bool true)) (x_assign rfl) ?_)
      refine wpList_nil ?_
      refine (X_then (hK41_ _ _ ?_))
      clear hK41_
      refine C_ret ?_
      refine R_any (v := (Value.bool true)) (run_results1 rfl rfl) ?_
      exact ⟨_, [], rfl, ⟨⟨_, rfl⟩, rfl⟩, S10_, H9_⟩

set_option maxHeartbeats 400000 in
theorem kFits8 (R : HP) (q : ReqS) (cc : List CmpS) (tt ee : List ReqS) (hL : Lists R q cc tt ee) :
    Tri Try.prog 17 #[(Value.agg #[(Value.int .i64 q.kind), (Value.string q.key), (Value.string q.en), (Value.string q.val), (Value.int .i64 q.lease), (Value.int .i64 q.rev), (Value.int .i64 q.limit), (Value.int .i64 q.order), (Value.int .i64 q.target), (Value.int .i64 q.minMod), (Value.int .i64 q.maxMod), (Value.int .i64 q.minCreate), (Value.int .i64 q.maxCreate), (Value.bool q.keysOnly), (Value.bool q.countOnly), (Value.bool q.prev), (Value.bool q.ignValue), (Value.bool q.ignLease), (Value.slice q.cA q.cN q.cC), (Value.slice q.tA q.tN q.tC), (Value.slice q.eA q.eN q.eC)])] R [] (fun v post => (∃ b : Bool, v = .bool b) ∧ post = []) := by
  refine Tri.into (n := 27) (al := [(Value.agg #[(Value.int .i64 q.kind), (Value.string q.key), (Value.string q.en), (Value.string q.val), (Value.int .i64 q.lease), (Value.int .i64 q.rev), (Value.int .i64 q.limit), (Value.int .i64 q.order), (Value.int .i64 q.target), (Value.int .i64 q.minMod), (Value.int .i64 q.maxMod), (Value.int .i64 q.minCreate), (Value.int .i64 q.maxCreate), (Value.bool q.keysOnly), (Value.bool q.countOnly), (Value.bool q.prev), (Value.bool q.ignValue), (Value.bool q.ignLease), (Value.slice q.cA q.cN q.cC), (Value.slice q.tA q.tN q.tC), (Value.slice q.eA q.eN q.eC)])]) Try.func17 rfl Try.ntmps17 rfl rfl fun w F H => ?_
  replace H : Holds w (ro R :: F) := H
  refine C_seq (fun K1_ hK1_ => ?_)
  refine C_reg ?_
  refine S_list (T_box (v := (Value.agg #[(Value.int .i64 q.kind), (Value.string q.key), (Value.string q.en), (Value.string q.val), (Value.int .i64 q.lease), (Value.int .i64 q.rev), (Value.int .i64 q.limit), (Value.int .i64 q.order), (Value.int .i64 q.target), (Value.int .i64 q.minMod), (Value.int .i64 q.maxMod), (Value.int .i64 q.minCreate), (Value.int .i64 q.maxCreate), (Value.bool q.keysOnly), (Value.bool q.countOnly), (Value.bool q.prev), (Value.bool q.ignValue), (Value.bool q.ignLease), (Value.slice q.cA q.cN q.cC), (Value.slice q.tA q.tN q.tC), (Value.slice q.eA q.eN q.eC)])) rfl H ?_)
  intro b2_ w3_ S5_ H4_
  replace H4_ : Holds w3_ (cl b2_ 40 [(Value.int .i64 q.kind), (Value.string q.key), (Value.string q.en), (Value.string q.val), (Value.int .i64 q.lease), (Value.int .i64 q.rev), (Value.int .i64 q.limit), (Value.int .i64 q.order), (Value.int .i64 q.target), (Value.int .i64 q.minMod), (Value.int .i64 q.maxMod), (Value.int .i64 q.minCreate), (Value.int .i64 q.maxCreate), (Value.bool q.keysOnly), (Value.bool q.countOnly), (Value.bool q.prev), (Value.bool q.ignValue), (Value.bool q.ignLease), (Value.slice q.cA q.cN q.cC), (Value.slice q.tA q.tN q.tC), (Value.slice q.eA q.eN q.eC)] :: ro R :: F) := H4_
  have S6_ := Same.trans (Same.refl w) S5_
  refine S_list (T_val (v := (Value.bool false)) (x_assign rfl) ?_)
  refine wpList_nil ?_
  refine (X_then (hK1_ _ _ ?_))
  clear hK1_
  refine C_seq (fun K7_ hK7_ => ?_)
  refine C_seq (fun K8_ hK8_ => ?_)
  refine C_reg ?_
  refine S_list (T_val (v := (Value.pointer (some ⟨b2_, 1, none⟩))) (by kernel_rfl) ?_)
  refine S_list (T_val (v := (Value.string q.key)) (x_load1 rfl Try.underlying9 rfl ((Holds.rd H4_ 0 rfl) 1 (Value.string q.key) rfl)) ?_)
  refine S_list (T_val (v := (Value.int .i64 (q.key.size : Int))) (x_lenT rfl Try.underlying9) ?_)
  refine S_list (T_val (v := (Value.bool (decide (2147483647 < (q.key.size : Int))))) (x_bin rfl rfl rfl) ?_)
  refine wpList_nil ?_
  refine (X_then (hK8_ _ _ ?_))
  clear hK8_
  refine C_cond (b := decide (2147483647 < (q.key.size : Int))) rfl (fun c9_t => ?_) (fun c9_f => ?_)
  · have c9_tp : 2147483647 < (q.key.size : Int) := of_decide_eq_true c9_t
    refine C_seq (fun K10_ hK10_ => ?_)
    refine C_reg ?_
    refine S_list (T_val (v := (Value.bool false)) (x_assign rfl) ?_)
    refine wpList_nil ?_
    refine (X_then (hK10_ _ _ ?_))
    clear hK10_
    refine C_ret (X_thenR ?_)
    refine R_any (v := (Value.bool false)) (run_results1 rfl rfl) ?_
    have H11_ : Holds w3_ (ro R :: F) := (Holds.erase (Holds.bring H4_ 1 rfl) 1)
    exact ⟨_, [], rfl, ⟨⟨_, rfl⟩, rfl⟩, S6_, H11_⟩
  · have c9_fp : ¬ (2147483647 < (q.key.size : Int)) := of_decide_eq_false c9_f
    refine C_skip (X_then (hK7_ _ _ ?_))
    clear hK7_
    refine C_seq (fun K12_ hK12_ => ?_)
    refine C_seq (fun K13_ hK13_ => ?_)
    refine C_reg ?_
    refine S_list (T_val (v := (Value.pointer (some ⟨b2_, 2, none⟩))) (by kernel_rfl) ?_)
    refine S_list (T_val (v := (Value.string q.en)) (x_load1 rfl Try.underlying9 rfl ((Holds.rd H4_ 0 rfl) 2 (Value.string q.en) rfl)) ?_)
    refine S_list (T_val (v := (Value.int .i64 (q.en.size : Int))) (x_lenT rfl Try.underlying9) ?_)
    refine S_list (T_val (v := (Value.bool (decide (2147483647 < (q.en.size : Int))))) (x_bin rfl rfl rfl) ?_)
    refine wpList_nil ?_
    refine (X_then (hK13_ _ _ ?_))
    clear hK13_
    refine C_cond (b := decide (2147483647 < (q.en.size : Int))) rfl (fun c14_t => ?_) (fun c14_f => ?_)
    · have c14_tp : 2147483647 < (q.en.size : Int) := of_decide_eq_true c14_t
      refine C_seq (fun K15_ hK15_ => ?_)
      refine C_reg ?_
      refine S_list (T_val (v := (Value.bool false)) (x_assign rfl) ?_)
      refine wpList_nil ?_
      refine (X_then (hK15_ _ _ ?_))
      clear hK15_
      refine C_ret (X_thenR ?_)
      refine R_any (v := (Value.bool false)) (run_results1 rfl rfl) ?_
      have H16_ : Holds w3_ (ro R :: F) := (Holds.erase (Holds.bring H4_ 1 rfl) 1)
      exact ⟨_, [], rfl, ⟨⟨_, rfl⟩, rfl⟩, S6_, H16_⟩
    · have c14_fp : ¬ (2147483647 < (q.en.size : Int)) := of_decide_eq_false c14_f
      refine C_skip (X_then (hK12_ _ _ ?_))
      clear hK12_
      refine C_seq (fun K17_ hK17_ => ?_)
      refine C_seq (fun K18_ hK18_ => ?_)
      refine C_reg ?_
      refine S_list (T_val (v := (Value.pointer (some ⟨b2_, 3, none⟩))) (by kernel_rfl) ?_)
      refine S_list (T_val (v := (Value.string q.val)) (x_load1 rfl Try.underlying9 rfl ((Holds.rd H4_ 0 rfl) 3 (Value.string q.val) rfl)) ?_)
      refine S_list (T_val (v := (Value.int .i64 (q.val.size : Int))) (x_lenT rfl Try.underlying9) ?_)
      refine S_list (T_val (v := (Value.bool (decide (2147483647 < (q.val.size : Int))))) (x_bin rfl rfl rfl) ?_)
      refine wpList_nil ?_
      refine (X_then (hK18_ _ _ ?_))
      clear hK18_
      refine C_cond (b := decide (2147483647 < (q.val.size : Int))) rfl (fun c19_t => ?_) (fun c19_f => ?_)
      · have c19_tp : 2147483647 < (q.val.size : Int) := of_decide_eq_true c19_t
        refine C_seq (fun K20_ hK20_ => ?_)
        refine C_reg ?_
        refine S_list (T_val (v := (Value.bool false)) (x_assign rfl) ?_)
        refine wpList_nil ?_
        refine (X_then (hK20_ _ _ ?_))
        clear hK20_
        refine C_ret (X_thenR ?_)
        refine R_any (v := (Value.bool false)) (run_results1 rfl rfl) ?_
        have H21_ : Holds w3_ (ro R :: F) := (Holds.erase (Holds.bring H4_ 1 rfl) 1)
        exact ⟨_, [], rfl, ⟨⟨_, rfl⟩, rfl⟩, S6_, H21_⟩
      · have c19_fp : ¬ (2147483647 < (q.val.size : Int)) := of_decide_eq_false c19_f
        refine C_skip (X_then (hK17_ _ _ ?_))
        clear hK17_
        refine C_seq (fun K22_ hK22_ => ?_)
        refine C_seq (fun K23_ hK23_ => ?_)
        refine C_reg ?_
        refine S_list (T_val (v := (Value.pointer (some ⟨b2_, 18, none⟩))) (by kernel_rfl) ?_)
        refine S_list (T_val (v := (Value.slice q.cA q.cN q.cC)) (x_load1 rfl Try.underlying37 rfl ((Holds.rd H4_ 0 rfl) 18 (Value.slice q.cA q.cN q.cC) rfl)) ?_)
        have H25_ : Holds w3_ (ro R :: cl b2_ 40 [(Value.int .i64 q.kind), (Value.string q.key), (Value.string q.en), (Value.string q.val), (Value.int .i64 q.lease), (Value.int .i64 q.rev), (Value.int .i64 q.limit), (Value.int .i64 q.order), (Value.int .i64 q.target), (Value.int .i64 q.minMod), (Value.int .i64 q.maxMod), (Value.int .i64 q.minCreate), (Value.int .i64 q.maxCreate), (Value.bool q.keysOnly), (Value.bool q.countOnly), (Value.bool q.prev), (Value.bool q.ignValue), (Value.bool q.ignLease), (Value.slice q.cA q.cN q.cC), (Value.slice q.tA q.tN q.tC), (Value.slice q.eA q.eN q.eC)] :: F) := (Holds.bring H4_ 1 rfl)
        refine S_list (T_call (al := [(Value.slice q.cA q.cN q.cC)]) (pre := []) (F := cl b2_ 40 [(Value.int .i64 q.kind), (Value.string q.key), (Value.string q.en), (Value.string q.val), (Value.int .i64 q.lease), (Value.int .i64 q.rev), (Value.int .i64 q.limit), (Value.int .i64 q.order), (Value.int .i64 q.target), (Value.int .i64 q.minMod), (Value.int .i64 q.maxMod), (Value.int .i64 q.minCreate), (Value.int .i64 q.maxCreate), (Value.bool q.keysOnly), (Value.bool q.countOnly), (Value.bool q.prev), (Value.bool q.ignValue), (Value.bool q.ignLease), (Value.slice q.cA q.cN q.cC), (Value.slice q.tA q.tN q.tC), (Value.slice q.eA q.eN q.eC)] :: F) rfl rfl cb40 (kFits9 R (Value.slice q.cA q.cN q.cC) cc hL.c) H25_ ?_)
        rintro v29_ p30_ w26_ ⟨⟨q24_, rfl⟩, rfl⟩ S28_ H27_
        replace H27_ : Holds w26_ (ro R :: cl b2_ 40 [(Value.int .i64 q.kind), (Value.string q.key), (Value.string q.en), (Value.string q.val), (Value.int .i64 q.lease), (Value.int .i64 q.rev), (Value.int .i64 q.limit), (Value.int .i64 q.order), (Value.int .i64 q.target), (Value.int .i64 q.minMod), (Value.int .i64 q.maxMod), (Value.int .i64 q.minCreate), (Value.int .i64 q.maxCreate), (Value.bool q.keysOnly), (Value.bool q.countOnly), (Value.bool q.prev), (Value.bool q.ignValue), (Value.bool q.ignLease), (Value.slice q.cA q.cN q.cC), (Value.slice q.tA q.tN q.tC), (Value.slice q.eA q.eN q.eC)] :: F) := H27_
        have S31_ := Same.trans S6_ S28_
        refine S_list (T_val (v := (Value.bool (!q24_))) (x_not rfl) ?_)
        refine wpList_nil ?_
        refine (X_then (hK23_ _ _ ?_))
        clear hK23_
        refine C_cond (b := !q24_) rfl (fun c32_t => ?_) (fun c32_f => ?_)
        · skip
          refine C_seq (fun K33_ hK33_ => ?_)
          refine C_reg ?_
          refine S_list (T_val (v := (Value.bool false)) (x_assign rfl) ?_)
          refine wpList_nil ?_
          refine (X_then (hK33_ _ _ ?_))
          clear hK33_
          refine C_ret (X_thenR ?_)
          refine R_any (v := (Value.bool false)) (run_results1 rfl rfl) ?_
          have H34_ : Holds w26_ (ro R :: F) := (Holds.erase (Holds.bring H27_ 0 rfl) 1)
          exact ⟨_, [], rfl, ⟨⟨_, rfl⟩, rfl⟩, S31_, H34_⟩
        · skip
          refine C_skip (X_then (hK22_ _ _ ?_))
          clear hK22_
          refine C_seq (fun K35_ hK35_ => ?_)
          refine C_seq (fun K36_ hK36_ => ?_)
          refine C_reg ?_
          refine S_list (T_val (v := (Value.pointer (some ⟨b2_, 19, none⟩))) (by kernel_rfl) ?_)
          refine S_list (T_val (v := (Value.slice q.tA q.tN q.tC)) (x_load1 rfl Try.underlying38 rfl ((Holds.rd H27_ 1 rfl) 19 (Value.slice q.tA q.tN q.tC) rfl)) ?_)
          refine S_list (T_val (v := (Value.int .i64 (tt.length : Int))) (x_lenRS rfl hL.t Try.underlying38) ?_)
          refine S_list (T_val (v := (Value.bool (decide (2147483647 < (tt.length : Int))))) (x_bin rfl rfl rfl) ?_)
          refine wpList_nil ?_
          refine (X_then (hK36_ _ _ ?_))
          clear hK36_
          refine C_cond (b := decide (2147483647 < (tt.length : Int))) rfl (fun c37_t => ?_) (fun c37_f => ?_)
          · have c37_tp : 2147483647 < (tt.length : Int) := of_decide_eq_true c37_t
            refine C_seq (fun K38_ hK38_ => ?_)
            refine C_reg ?_
            refine S_list (T_val (v := (Value.bool false)) (x_assign rfl) ?_)
            refine wpList_nil ?_
            refine (X_then (hK38_ _ _ ?_))
            clear hK38_
            refine C_ret (X_thenR ?_)
            refine R_any (v := (Value.bool false)) (run_results1 rfl rfl) ?_
            have H39_ : Holds w26_ (ro R :: F) := (Holds.erase (Holds.bring H27_ 0 rfl) 1)
            exact ⟨_, [], rfl, ⟨⟨_, rfl⟩, rfl⟩, S31_, H39_⟩
          · have c37_fp : ¬ (2147483647 < (tt.length : Int)) := of_decide_eq_false c37_f
            refine C_skip (X_then (hK35_ _ _ ?_))
            clear hK35_
            refine C_seq (fun K40_ hK40_ => ?_)
            refine C_seq (fun K41_ hK41_ => ?_)
            refine C_reg ?_
            refine S_list (T_val (v := (Value.pointer (some ⟨b2_, 20, none⟩))) (by kernel_rfl) ?_)
            refine S_list (T_val (v := (Value.slice q.eA q.eN q.eC)) (x_load1 rfl Try.underlying38 rfl ((Holds.rd H27_ 1 rfl) 20 (Value.slice q.eA q.eN q.eC) rfl)) ?_)
            refine S_list (T_val (v := (Value.int .i64 (ee.length : Int))) (x_lenRS rfl hL.e Try.underlying38) ?_)
            refine S_list (T_val (v := (Value.bool (decide (2147483647 < (ee.length : Int))))) (x_bin rfl rfl rfl) ?_)
            refine wpList_nil ?_
            refine (X_then (hK41_ _ _ ?_))
            clear hK41_
            refine C_cond (b := decide (2147483647 < (ee.length : Int))) rfl (fun c42_t => ?_) (fun c42_f => ?_)
            · have c42_tp : 2147483647 < (ee.length : Int) := of_decide_eq_true c42_t
              refine C_seq (fun K43_ hK43_ => ?_)
              refine C_reg ?_
              refine S_list (T_val (v := (Value.bool false)) (x_assign rfl) ?_)
              refine wpList_nil ?_
              refine (X_then (hK43_ _ _ ?_))
              clear hK43_
              refine C_ret (X_thenR ?_)
              refine R_any (v := (Value.bool false)) (run_results1 rfl rfl) ?_
              have H44_ : Holds w26_ (ro R :: F) := (Holds.erase (Holds.bring H27_ 0 rfl) 1)
              exact ⟨_, [], rfl, ⟨⟨_, rfl⟩, rfl⟩, S31_, H44_⟩
            · have c42_fp : ¬ (2147483647 < (ee.length : Int)) := of_decide_eq_false c42_f
              refine C_skip (X_then (hK40_ _ _ ?_))
              clear hK40_
              refine C_seq (fun K45_ hK45_ => ?_)
              refine C_reg ?_
              refine S_list (T_val (v := (Value.bool true)) (x_assign rfl) ?_)
              refine wpList_nil ?_
              refine (X_then (hK45_ _ _ ?_))
              clear hK45_
              refine C_ret ?_
              refine R_any (v := (Value.bool true)) (run_results1 rfl rfl) ?_
              have H46_ : Holds w26_ (ro R :: F) := (Holds.erase (Holds.bring H27_ 0 rfl) 1)
              exact ⟨_, [], rfl, ⟨⟨_, rfl⟩, rfl⟩, S31_, H46_⟩
end Go.Proofs.Ytfdnfnjmphjdnaa
