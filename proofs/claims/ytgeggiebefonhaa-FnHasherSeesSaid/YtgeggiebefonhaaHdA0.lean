/- The guards of the statement. -/
import Derived.Test.YtgeggiebefonhaaHcC0
import Derived.Test.YtgeggiebefonhaaHdE
set_option linter.unusedVariables false
set_option linter.unusedSimpArgs false
namespace Go.Proofs.Ytgeggiebefonhaa
open Go Go.RowKit Gw

set_option maxHeartbeats 400000 in
theorem lFits31 (R : HP) (v : Value) (L : List RW) (hL : RS R 9 v L.length (L.flatMap RW.cells)) :
    Tri Try.prog 11 #[v] R [] (fun v__ post__ => ∃ (b : Bool), v__ = (Value.bool b) ∧ post__ = [] ∧ (b = true → L.length ≤ 2147483647)) := by
  refine Tri.into (n := 18) (al := [v]) Try.func11 rfl Try.ntmps11 rfl rfl fun w F H => ?_
  replace H : Holds w (ro R :: F) := H
  refine C_seq (fun K1_ hK1_ => ?_)
  refine C_reg ?_
  refine S_list (T_val (v := (Value.bool false)) (x_assign rfl) ?_)
  refine wpList_nil ?_
  refine (X_then (hK1_ _ _ ?_))
  clear hK1_
  refine C_seq (fun K2_ hK2_ => ?_)
  refine C_seq (fun K3_ hK3_ => ?_)
  refine C_reg ?_
  refine S_list (T_val (v := v) (x_move rfl) ?_)
  refine S_list (T_val (v := (Value.int .i64 (L.length : Int))) (x_lenRS rfl hL Try.underlying34) ?_)
  refine S_list (T_val (v := (Value.bool (decide (2147483647 < (L.length : Int))))) (x_bin rfl rfl rfl) ?_)
  refine wpList_nil ?_
  refine (X_then (hK3_ _ _ ?_))
  clear hK3_
  refine C_cond (b := decide (2147483647 < (L.length : Int))) rfl (fun c4_t => ?_) (fun c4_f => ?_)
  · have c4_tp : 2147483647 < (L.length : Int) := of_decide_eq_true c4_t
    refine C_seq (fun K5_ hK5_ => ?_)
    refine C_reg ?_
    refine S_list (T_val (v := (Value.bool false)) (x_assign rfl) ?_)
    refine wpList_nil ?_
    refine (X_then (hK5_ _ _ ?_))
    clear hK5_
    refine C_ret (X_thenR ?_)
    refine R_any (v := (Value.bool false)) (run_results1 rfl rfl) ?_
    exact ⟨_, [], rfl, ⟨false, rfl, rfl, (fun h => by first | omega | (cases h; done))⟩, (Same.refl w), H⟩
  · have c4_fp : ¬ (2147483647 < (L.length : Int)) := of_decide_eq_false c4_f
    refine C_skip (X_then (hK2_ _ _ ?_))
    clear hK2_
    refine C_seq (fun K6_ hK6_ => ?_)
    refine C_seq (fun K7_ hK7_ => ?_)
    refine C_reg ?_
    refine S_list (T_val (v := v) (x_move rfl) ?_)
    refine S_list (T_val (v := (Value.int .i64 (L.length : Int))) (x_lenRS rfl hL Try.underlying34) ?_)
    refine S_list (T_val (v := (Value.int .i64 0)) (x_move rfl) ?_)
    refine wpList_nil ?_
    refine (X_then (hK7_ _ _ ?_))
    clear hK7_
    refine C_block ?_
    refine C_loop (γ := Nat × Bool) (fun x__ a__ w1__ => match x__ with | ⟨k, t2_v⟩ => ∃ h : Env, a__ = mkA 18 (upd (upd (upd (upd h 2 (Value.bool t2_v)) 8 v) 9 (Value.int .i64 (L.length : Int))) 10 (Value.int .i64 (k : Int))) [] ∧ Holds w1__ (ro R :: F) ∧ Same w w1__ ∧ (k ≤ L.length)) (fun x__ => match x__ with | ⟨k, t2_v⟩ => L.length - k) (⟨0, false⟩) ⟨_, congrArg (fun e => mkA 18 e []) (ch (ch (ch (ch rfl rfl) rfl) rfl) (congrArg (Value.int .i64) ((by first | rfl | omega | (simp; done) | (simp; omega)) : 0 = (0 : Int)))), H, (Same.refl w), (by first | assumption | omega | exact rfl)⟩ ?_
    rintro ⟨k, t2_v⟩ _ w8_ ⟨h, rfl, H9_, S10_, hk⟩
    refine C_seq (fun K11_ hK11_ => ?_)
    refine C_reg ?_
    refine S_list (T_val (v := (Value.bool (decide ((k : Int) < (L.length : Int))))) (x_bin rfl rfl rfl) ?_)
    refine wpList_nil ?_
    refine (X_then (hK11_ _ _ ?_))
    clear hK11_
    refine C_seq (fun K12_ hK12_ => ?_)
    refine C_cond (b := decide ((k : Int) < (L.length : Int))) rfl (fun c13_t => ?_) (fun c13_f => ?_)
    · have c13_tp : (k : Int) < (L.length : Int) := of_decide_eq_true c13_t
      refine C_skip (X_then (hK12_ _ _ ?_))
      clear hK12_
      refine C_seq (fun K14_ hK14_ => ?_)
      refine C_block ?_
      refine C_seq (fun K15_ hK15_ => ?_)
      refine C_reg ?_
      obtain ⟨x16_, hx17_, hm18_⟩ := elem_at L k (by omega)
      refine S_list (T_val (v := (Value.pointer (some ⟨(sb v), so v + (k * 9 + 0), none⟩))) (x_idxRS (v := v) rfl hL rfl Try.underlying34 z42 (by omega) (by omega) (by omega : _ = k) rfl) ?_)
      refine S_list (T_val (v := (Value.agg #[(Value.int .i64 x16_.rev_Main), (Value.int .i64 x16_.rev_Sub), (Value.bool x16_.gone), (Value.string x16_.kV_Key), (Value.string x16_.kV_Value), (Value.int .i64 x16_.kV_Create), (Value.int .i64 x16_.kV_Mod), (Value.int .i64 x16_.kV_Version), (Value.int .i64 x16_.kV_Lease)])) (x_loadN (vs := [(Value.int .i64 x16_.rev_Main), (Value.int .i64 x16_.rev_Sub), (Value.bool x16_.gone), (Value.string x16_.kV_Key), (Value.string x16_.kV_Value), (Value.int .i64 x16_.kV_Create), (Value.int .i64 x16_.kV_Mod), (Value.int .i64 x16_.kV_Version), (Value.int .i64 x16_.kV_Lease)]) rfl Try.underlying42 rfl z42 rfl (RC.cells (RS.rc hL) (Holds.ro_at H9_ 0 rfl) (k * 9 + 0) (fm_cells RW.len hx17_ (i := 0) rfl))) ?_)
      refine S_list (T_alloc z42 H9_ ?_)
      intro b19_ w20_ S22_ H21_
      replace H21_ : Holds w20_ (cl b19_ 42 [(Value.int .i64 0), (Value.int .i64 0), (Value.bool false), (Value.string ByteArray.empty), (Value.string ByteArray.empty), (Value.int .i64 0), (Value.int .i64 0), (Value.int .i64 0), (Value.int .i64 0)] :: ro R :: F) := H21_
      have S23_ := Same.trans S10_ S22_
      refine S_list0 (T_storeN (vs := [(Value.int .i64 x16_.rev_Main), (Value.int .i64 x16_.rev_Sub), (Value.bool x16_.gone), (Value.string x16_.kV_Key), (Value.string x16_.kV_Value), (Value.int .i64 x16_.kV_Create), (Value.int .i64 x16_.kV_Mod), (Value.int .i64 x16_.kV_Version), (Value.int .i64 x16_.kV_Lease)]) rfl rfl z42 rfl (by simp [Value.oneCell']) H21_ 0 rfl (Nat.le_of_ble_eq_true (by rfl)) ?_)
      intro w24_ S26_ H25_
      replace H25_ : Holds w24_ (cl b19_ 42 [(Value.int .i64 x16_.rev_Main), (Value.int .i64 x16_.rev_Sub), (Value.bool x16_.gone), (Value.string x16_.kV_Key), (Value.string x16_.kV_Value), (Value.int .i64 x16_.kV_Create), (Value.int .i64 x16_.kV_Mod), (Value.int .i64 x16_.kV_Version), (Value.int .i64 x16_.kV_Lease)] :: ro R :: F) := H25_
      have S27_ := Same.trans S23_ S26_
      refine wpList_nil ?_
      refine (X_then (hK15_ _ _ ?_))
      clear hK15_
      refine C_seq (fun K28_ hK28_ => ?_)
      refine C_reg ?_
      refine S_list (T_val (v := (Value.agg #[(Value.int .i64 x16_.rev_Main), (Value.int .i64 x16_.rev_Sub), (Value.bool x16_.gone), (Value.string x16_.kV_Key), (Value.string x16_.kV_Value), (Value.int .i64 x16_.kV_Create), (Value.int .i64 x16_.kV_Mod), (Value.int .i64 x16_.kV_Version), (Value.int .i64 x16_.kV_Lease)])) (x_loadN (vs := [(Value.int .i64 x16_.rev_Main), (Value.int .i64 x16_.rev_Sub), (Value.bool x16_.gone), (Value.string x16_.kV_Key), (Value.string x16_.kV_Value), (Value.int .i64 x16_.kV_Create), (Value.int .i64 x16_.kV_Mod), (Value.int .i64 x16_.kV_Version), (Value.int .i64 x16_.kV_Lease)]) rfl Try.underlying42 rfl z42 rfl (Rd.cells (Holds.rd H25_ 0 rfl) 0 rfl)) ?_)
      refine S_list (T_callW (al := [(Value.agg #[(Value.int .i64 x16_.rev_Main), (Value.int .i64 x16_.rev_Sub), (Value.bool x16_.gone), (Value.string x16_.kV_Key), (Value.string x16_.kV_Value), (Value.int .i64 x16_.kV_Create), (Value.int .i64 x16_.kV_Mod), (Value.int .i64 x16_.kV_Version), (Value.int .i64 x16_.kV_Lease)])]) rfl rfl cb39 (Calls.into (n := 7) (al := [(Value.agg #[(Value.int .i64 x16_.rev_Main), (Value.int .i64 x16_.rev_Sub), (Value.bool x16_.gone), (Value.string x16_.kV_Key), (Value.string x16_.kV_Value), (Value.int .i64 x16_.kV_Create), (Value.int .i64 x16_.kV_Mod), (Value.int .i64 x16_.kV_Version), (Value.int .i64 x16_.kV_Lease)])]) Try.func39 rfl Try.ntmps39 rfl rfl ?_))
      refine C_seq (fun K29_ hK29_ => ?_)
      refine C_reg ?_
      refine S_list (T_box (v := (Value.agg #[(Value.int .i64 x16_.rev_Main), (Value.int .i64 x16_.rev_Sub), (Value.bool x16_.gone), (Value.string x16_.kV_Key), (Value.string x16_.kV_Value), (Value.int .i64 x16_.kV_Create), (Value.int .i64 x16_.kV_Mod), (Value.int .i64 x16_.kV_Version), (Value.int .i64 x16_.kV_Lease)])) rfl H25_ ?_)
      intro b30_ w31_ S33_ H32_
      replace H32_ : Holds w31_ (cl b30_ 42 [(Value.int .i64 x16_.rev_Main), (Value.int .i64 x16_.rev_Sub), (Value.bool x16_.gone), (Value.string x16_.kV_Key), (Value.string x16_.kV_Value), (Value.int .i64 x16_.kV_Create), (Value.int .i64 x16_.kV_Mod), (Value.int .i64 x16_.kV_Version), (Value.int .i64 x16_.kV_Lease)] :: cl b19_ 42 [(Value.int .i64 x16_.rev_Main), (Value.int .i64 x16_.rev_Sub), (Value.bool x16_.gone), (Value.string x16_.kV_Key), (Value.string x16_.kV_Value), (Value.int .i64 x16_.kV_Create), (Value.int .i64 x16_.kV_Mod), (Value.int .i64 x16_.kV_Version), (Value.int .i64 x16_.kV_Lease)] :: ro R :: F) := H32_
      have S34_ := Same.trans S27_ S33_
      refine S_list (T_val (v := (Value.bool false)) (x_assign rfl) ?_)
      refine wpList_nil ?_
      refine (X_then (hK29_ _ _ ?_))
      clear hK29_
      refine C_seq (fun K35_ hK35_ => ?_)
      refine C_seq (fun K36_ hK36_ => ?_)
      refine C_reg ?_
      refine S_list (T_val (v := (Value.pointer (some ⟨b30_, 3, none⟩))) (by kernel_rfl) ?_)
      refine S_list (T_val (v := (Value.agg #[(Value.string x16_.kV_Key), (Value.string x16_.kV_Value), (Value.int .i64 x16_.kV_Create), (Value.int .i64 x16_.kV_Mod), (Value.int .i64 x16_.kV_Version), (Value.int .i64 x16_.kV_Lease)])) (x_loadN (vs := [(Value.string x16_.kV_Key), (Value.string x16_.kV_Value), (Value.int .i64 x16_.kV_Create), (Value.int .i64 x16_.kV_Mod), (Value.int .i64 x16_.kV_Version), (Value.int .i64 x16_.kV_Lease)]) rfl Try.underlying40 rfl z40 rfl (Rd.cells (Holds.rd H32_ 0 rfl) 3 rfl)) ?_)
      refine S_list (T_callW (al := [(Value.agg #[(Value.string x16_.kV_Key), (Value.string x16_.kV_Value), (Value.int .i64 x16_.kV_Create), (Value.int .i64 x16_.kV_Mod), (Value.int .i64 x16_.kV_Version), (Value.int .i64 x16_.kV_Lease)])]) rfl rfl cb53 (Calls.into (n := 11) (al := [(Value.agg #[(Value.string x16_.kV_Key), (Value.string x16_.kV_Value), (Value.int .i64 x16_.kV_Create), (Value.int .i64 x16_.kV_Mod), (Value.int .i64 x16_.kV_Version), (Value.int .i64 x16_.kV_Lease)])]) Try.func53 rfl Try.ntmps53 rfl rfl ?_))
      refine C_seq (fun K37_ hK37_ => ?_)
      refine C_reg ?_
      refine S_list (T_box (v := (Value.agg #[(Value.string x16_.kV_Key), (Value.string x16_.kV_Value), (Value.int .i64 x16_.kV_Create), (Value.int .i64 x16_.kV_Mod), (Value.int .i64 x16_.kV_Version), (Value.int .i64 x16_.kV_Lease)])) rfl H32_ ?_)
      intro b38_ w39_ S41_ H40_
      replace H40_ : Holds w39_ (cl b38_ 40 [(Value.string x16_.kV_Key), (Value.string x16_.kV_Value), (Value.int .i64 x16_.kV_Create), (Value.int .i64 x16_.kV_Mod), (Value.int .i64 x16_.kV_Version), (Value.int .i64 x16_.kV_Lease)] :: cl b30_ 42 [(Value.int .i64 x16_.rev_Main), (Value.int .i64 x16_.rev_Sub), (Value.bool x16_.gone), (Value.string x16_.kV_Key), (Value.string x16_.kV_Value), (Value.int .i64 x16_.kV_Create), (Value.int .i64 x16_.kV_Mod), (Value.int .i64 x16_.kV_Version), (Value.int .i64 x16_.kV_Lease)] :: cl b19_ 42 [(Value.int .i64 x16_.rev_Main), (Value.int .i64 x16_.rev_Sub), (Value.bool x16_.gone), (Value.string x16_.kV_Key), (Value.string x16_.kV_Value), (Value.int .i64 x16_.kV_Create), (Value.int .i64 x16_.kV_Mod), (Value.int .i64 x16_.kV_Version), (Value.int .i64 x16_.kV_Lease)] :: ro R :: F) := H40_
      have S42_ := Same.trans S34_ S41_
      refine S_list (T_val (v := (Value.bool false)) (x_assign rfl) ?_)
      refine wpList_nil ?_
      refine (X_then (hK37_ _ _ ?_))
      clear hK37_
      refine C_seq (fun K43_ hK43_ => ?_)
      refine C_seq (fun K44_ hK44_ => ?_)
      refine C_reg ?_
      refine S_list (T_val (v := (Value.pointer (some ⟨b38_, 0, none⟩))) (by kernel_rfl) ?_)
      refine S_list (T_val (v := (Value.string x16_.kV_Key)) (x_load1 rfl Try.underlying9 rfl ((Holds.rd H40_ 0 rfl) 0 (Value.string x16_.kV_Key) rfl)) ?_)
      refine S_list (T_val (v := (Value.int .i64 (x16_.kV_Key.size : Int))) (x_lenT rfl Try.underlying9) ?_)
      refine S_list (T_val (v := (Value.bool (decide (2147483647 < (x16_.kV_Key.size : Int))))) (x_bin rfl rfl rfl) ?_)
      refine wpList_nil ?_
      refine (X_then (hK44_ _ _ ?_))
      clear hK44_
      refine C_cond (b := decide (2147483647 < (x16_.kV_Key.size : Int))) rfl (fun c45_t => ?_) (fun c45_f => ?_)
      · have c45_tp : 2147483647 < (x16_.kV_Key.size : Int) := of_decide_eq_true c45_t
        refine C_seq (fun K46_ hK46_ => ?_)
        refine C_reg ?_
        refine S_list (T_val (v := (Value.bool false)) (x_assign rfl) ?_)
        refine wpList_nil ?_
        refine (X_then (hK46_ _ _ ?_))
        clear hK46_
        refine C_ret (X_thenR ?_)
        refine R_any (v := (Value.bool false)) (run_results1 rfl rfl) ⟨_, rfl, ?_⟩
        refine S_list (T_val (v := (Value.bool true)) (x_cast (x_not (b := false) rfl) rfl) ?_)
        refine wpList_nil ?_
        refine (X_then (hK36_ _ _ ?_))
        clear hK36_
        refine C_condT rfl ?_
        refine C_seq (fun K47_ hK47_ => ?_)
        refine C_reg ?_
        refine S_list (T_val (v := (Value.bool false)) (x_assign rfl) ?_)
        refine wpList_nil ?_
        refine (X_then (hK47_ _ _ ?_))
        clear hK47_
        refine C_ret (X_thenR ?_)
        refine R_any (v := (Value.bool false)) (run_results1 rfl rfl) ⟨_, rfl, ?_⟩
        refine S_list (T_val (v := (Value.bool true)) (x_cast (x_not (b := false) rfl) rfl) ?_)
        refine wpList_nil ?_
        refine (X_then (hK28_ _ _ ?_))
        clear hK28_
        refine C_condT rfl ?_
        refine C_seq (fun K48_ hK48_ => ?_)
        refine C_reg ?_
        refine S_list (T_val (v := (Value.bool false)) (x_assign rfl) ?_)
        refine wpList_nil ?_
        refine (X_then (hK48_ _ _ ?_))
        clear hK48_
        refine C_ret (X_blkR (X_thenR (X_thenR (X_blkR (X_thenR ?_)))))
        refine R_any (v := (Value.bool false)) (run_results1 rfl rfl) ?_
        have H49_ : Holds w39_ (ro R :: F) := (Holds.erase (Holds.erase (Holds.erase (Holds.bring H40_ 3 rfl) 1) 1) 1)
        exact ⟨_, [], rfl, ⟨false, rfl, rfl, (fun h => by first | omega | (cases h; done))⟩, S42_, H49_⟩
      · have c45_fp : ¬ (2147483647 < (x16_.kV_Key.size : Int)) := of_decide_eq_false c45_f
        refine C_skip (X_then (hK43_ _ _ ?_))
        clear hK43_
        refine C_seq (fun K50_ hK50_ => ?_)
        refine C_seq (fun K51_ hK51_ => ?_)
        refine C_reg ?_
        refine S_list (T_val (v := (Value.pointer (some ⟨b38_, 1, none⟩))) (by kernel_rfl) ?_)
        refine S_list (T_val (v := (Value.string x16_.kV_Value)) (x_load1 rfl Try.underlying9 rfl ((Holds.rd H40_ 0 rfl) 1 (Value.string x16_.kV_Value) rfl)) ?_)
        refine S_list (T_val (v := (Value.int .i64 (x16_.kV_Value.size : Int))) (x_lenT rfl Try.underlying9) ?_)
        refine S_list (T_val (v := (Value.bool (decide (2147483647 < (x16_.kV_Value.size : Int))))) (x_bin rfl rfl rfl) ?_)
        refine wpList_nil ?_
        refine (X_then (hK51_ _ _ ?_))
        clear hK51_
        refine C_cond (b := decide (2147483647 < (x16_.kV_Value.size : Int))) rfl (fun c52_t => ?_) (fun c52_f => ?_)
        · have c52_tp : 2147483647 < (x16_.kV_Value.size : Int) := of_decide_eq_true c52_t
          refine C_seq (fun K53_ hK53_ => ?_)
          refine C_reg ?_
          refine S_list (T_val (v := (Value.bool false)) (x_assign rfl) ?_)
          refine wpList_nil ?_
          refine (X_then (hK53_ _ _ ?_))
          clear hK53_
          refine C_ret (X_thenR ?_)
          refine R_any (v := (Value.bool false)) (run_results1 rfl rfl) ⟨_, rfl, ?_⟩
          refine S_list (T_val (v := (Value.bool true)) (x_cast (x_not (b := false) rfl) rfl) ?_)
          refine wpList_nil ?_
          refine (X_then (hK36_ _ _ ?_))
          clear hK36_
          refine C_condT rfl ?_
          refine C_seq (fun K54_ hK54_ => ?_)
          refine C_reg ?_
          refine S_list (T_val (v := (Value.bool false)) (x_assign rfl) ?_)
          refine wpList_nil ?_
          refine (X_then (hK54_ _ _ ?_))
          clear hK54_
          refine C_ret (X_thenR ?_)
          refine R_any (v := (Value.bool false)) (run_results1 rfl rfl) ⟨_, rfl, ?_⟩
          refine S_list (T_val (v := (Value.bool true)) (x_cast (x_not (b := false) rfl) rfl) ?_)
          refine wpList_nil ?_
          refine (X_then (hK28_ _ _ ?_))
          clear hK28_
          refine C_condT rfl ?_
          refine C_seq (fun K55_ hK55_ => ?_)
          refine C_reg ?_
          refine S_list (T_val (v := (Value.bool false)) (x_assign rfl) ?_)
          refine wpList_nil ?_
          refine (X_then (hK55_ _ _ ?_))
          clear hK55_
          refine C_ret (X_blkR (X_thenR (X_thenR (X_blkR (X_thenR ?_)))))
          refine R_any (v := (Value.bool false)) (run_results1 rfl rfl) ?_
          have H56_ : Holds w39_ (ro R :: F) := (Holds.erase (Holds.erase (Holds.erase (Holds.bring H40_ 3 rfl) 1) 1) 1)
          exact ⟨_, [], rfl, ⟨false, rfl, rfl, (fun h => by first | omega | (cases h; done))⟩, S42_, H56_⟩
        · have c52_fp : ¬ (2147483647 < (x16_.kV_Value.size : Int)) := of_decide_eq_false c52_f
          refine C_skip (X_then (hK50_ _ _ ?_))
          clear hK50_
          refine C_seq (fun K57_ hK57_ => ?_)
          refine C_reg ?_
          refine S_list (T_val (v := (Value.bool true)) (x_assign rfl) ?_)
          refine wpList_nil ?_
          refine (X_then (hK57_ _ _ ?_))
          clear hK57_
          refine C_ret ?_
          refine R_any (v := (Value.bool true)) (run_results1 rfl rfl) ⟨_, rfl, ?_⟩
          refine S_list (T_val (v := (Value.bool false)) (x_cast (x_not (b := true) rfl) rfl) ?_)
          refine wpList_nil ?_
          refine (X_then (hK36_ _ _ ?_))
          clear hK36_
          refine C_condF rfl ?_
          refine C_skip (X_then (hK35_ _ _ ?_))
          clear hK35_
          refine C_seq (fun K58_ hK58_ => ?_)
          refine C_reg ?_
          refine S_list (T_val (v := (Value.bool true)) (x_assign rfl) ?_)
          refine wpList_nil ?_
          refine (X_then (hK58_ _ _ ?_))
          clear hK58_
          refine C_ret ?_
          refine R_any (v := (Value.bool true)) (run_results1 rfl rfl) ⟨_, rfl, ?_⟩
          refine S_list (T_val (v := (Value.bool false)) (x_cast (x_not (b := true) rfl) rfl) ?_)
          refine wpList_nil ?_
          refine (X_then (hK28_ _ _ ?_))
          clear hK28_
          refine C_condF rfl ?_
          refine C_skip (X_blkN (X_then (hK14_ _ _ ?_)))
          clear hK14_
          refine C_reg ?_
          refine S_list (T_val (v := (Value.int .i64 ((k : Int) + 1))) (x_bin rfl rfl (ib_add (IntWalk.i64_in _ (by omega)))) ?_)
          refine S_list (T_val (v := (Value.int .i64 ((k : Int) + 1))) (x_move rfl) ?_)
          refine wpList_nil ?_
          refine (X_then ?_)
          have H59_ : Holds w39_ (ro R :: F) := (Holds.erase (Holds.erase (Holds.erase (Holds.bring H40_ 3 rfl) 1) 1) 1)
          exact ⟨⟨k + 1, t2_v⟩, ⟨_, congrArg (fun e => mkA 18 e []) (ch (ch (ch (ch rfl rfl) rfl) rfl) (congrArg (Value.int .i64) ((by first | rfl | omega | (simp; done) | (simp; omega)) : (k : Int) + 1 = ((k + 1 : Nat) : Int)))), H59_, S42_, (by first | assumption | omega | exact rfl)⟩, by first | omega | (dsimp only; omega) | (simp; omega)⟩
    · have c13_fp : ¬ ((k : Int) < (L.length : Int)) := of_decide_eq_false c13_f
      refine C_exit (X_thenX (X_thenX (X_blkHit ?_)))
      refine (X_then (hK6_ _ _ ?_))
      clear hK6_
      refine C_seq (fun K60_ hK60_ => ?_)
      refine C_reg ?_
      refine S_list (T_val (v := (Value.bool true)) (x_assign rfl) ?_)
      refine wpList_nil ?_
      refine (X_then (hK60_ _ _ ?_))
      clear hK60_
      refine C_ret ?_
      refine R_any (v := (Value.bool true)) (run_results1 rfl rfl) ?_
      exact ⟨_, [], rfl, ⟨true, rfl, rfl, (fun h => by first | omega | (cases h; done))⟩, S10_, H9_⟩
end Go.Proofs.Ytgeggiebefonhaa
