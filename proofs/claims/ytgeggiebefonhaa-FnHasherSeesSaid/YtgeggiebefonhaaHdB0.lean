/- The guard of the statements of rows. -/
import Derived.Test.YtgeggiebefonhaaHdA0
set_option linter.unusedVariables false
set_option linter.unusedSimpArgs false
namespace Go.Proofs.Ytgeggiebefonhaa
open Go Go.RowKit Gw

set_option maxHeartbeats 400000 in
theorem lLess (R : HP) (a b c d : Int) :
    Tri Try.prog 66 #[(Value.agg #[(Value.int .i64 a), (Value.int .i64 b)]), (Value.agg #[(Value.int .i64 c), (Value.int .i64 d)])] R [] (fun v__ post__ => ∃ (r : Bool), v__ = (Value.bool r) ∧ post__ = []) := by
  refine Tri.into (n := 24) (al := [(Value.agg #[(Value.int .i64 a), (Value.int .i64 b)]), (Value.agg #[(Value.int .i64 c), (Value.int .i64 d)])]) Try.func66 rfl Try.ntmps66 rfl rfl fun w F H => ?_
  replace H : Holds w (ro R :: F) := H
  refine C_seq (fun K1_ hK1_ => ?_)
  refine C_reg ?_
  refine S_list (T_box (v := (Value.agg #[(Value.int .i64 a), (Value.int .i64 b)])) rfl H ?_)
  intro b2_ w3_ S5_ H4_
  replace H4_ : Holds w3_ (cl b2_ 38 [(Value.int .i64 a), (Value.int .i64 b)] :: ro R :: F) := H4_
  have S6_ := Same.trans (Same.refl w) S5_
  refine S_list (T_box (v := (Value.agg #[(Value.int .i64 c), (Value.int .i64 d)])) rfl H4_ ?_)
  intro b7_ w8_ S10_ H9_
  replace H9_ : Holds w8_ (cl b7_ 38 [(Value.int .i64 c), (Value.int .i64 d)] :: cl b2_ 38 [(Value.int .i64 a), (Value.int .i64 b)] :: ro R :: F) := H9_
  have S11_ := Same.trans S6_ S10_
  refine S_list (T_val (v := (Value.bool false)) (x_assign rfl) ?_)
  refine wpList_nil ?_
  refine (X_then (hK1_ _ _ ?_))
  clear hK1_
  refine C_seq (fun K12_ hK12_ => ?_)
  refine C_reg ?_
  refine S_list (T_val (v := (Value.pointer (some ⟨b2_, 0, none⟩))) (by kernel_rfl) ?_)
  refine S_list (T_val (v := (Value.int .i64 a)) (x_load1 rfl Try.underlying2 rfl ((Holds.rd H9_ 1 rfl) 0 (Value.int .i64 a) rfl)) ?_)
  refine S_list (T_val (v := (Value.pointer (some ⟨b7_, 0, none⟩))) (by kernel_rfl) ?_)
  refine S_list (T_val (v := (Value.int .i64 c)) (x_load1 rfl Try.underlying2 rfl ((Holds.rd H9_ 0 rfl) 0 (Value.int .i64 c) rfl)) ?_)
  refine S_list (T_val (v := (Value.bool (decide (a < c)))) (x_bin rfl rfl rfl) ?_)
  refine S_list (T_val (v := (Value.bool (decide (a < c)))) (x_move rfl) ?_)
  rcases Bool.eq_false_or_eq_true (decide (a < c)) with c13_t | c13_f
  · have c13_tp : a < c := of_decide_eq_true c13_t
    refine S_no (j := 5) (dj := 10) (b := true) rfl rfl (congrArg Value.bool c13_t) (by decide) ?_
    refine S_no (j := 5) (dj := 10) (b := true) rfl rfl (congrArg Value.bool c13_t) (by decide) ?_
    refine S_no (j := 5) (dj := 10) (b := true) rfl rfl (congrArg Value.bool c13_t) (by decide) ?_
    refine S_no (j := 5) (dj := 10) (b := true) rfl rfl (congrArg Value.bool c13_t) (by decide) ?_
    refine S_no (j := 5) (dj := 10) (b := true) rfl rfl (congrArg Value.bool c13_t) (by decide) ?_
    refine S_no (j := 5) (dj := 10) (b := true) rfl rfl (congrArg Value.bool c13_t) (by decide) ?_
    refine S_noU (j := 11) (dj := 16) rfl rfl rfl ?_
    refine S_noU (j := 11) (dj := 16) rfl rfl rfl ?_
    refine S_noU (j := 11) (dj := 16) rfl rfl rfl ?_
    refine S_noU (j := 11) (dj := 16) rfl rfl rfl ?_
    refine S_noU (j := 11) (dj := 16) rfl rfl rfl ?_
    refine S_no (j := 5) (dj := 10) (b := true) rfl rfl (congrArg Value.bool c13_t) (by decide) ?_
    refine S_list (T_pickT (v := (Value.bool true)) (congrArg Value.bool c13_t) rfl ?_)
    refine S_list (T_val (v := (Value.bool true)) (x_assign rfl) ?_)
    refine wpList_nil ?_
    refine (X_then (hK12_ _ _ ?_))
    clear hK12_
    refine C_ret ?_
    refine R_any (v := (Value.bool true)) (run_results1 rfl rfl) ?_
    have H14_ : Holds w8_ (ro R :: F) := (Holds.erase (Holds.erase (Holds.bring H9_ 2 rfl) 1) 1)
    exact ⟨_, [], rfl, ⟨true, rfl, rfl⟩, S11_, H14_⟩
  · have c13_fp : ¬ (a < c) := of_decide_eq_false c13_f
    refine S_yes (j := 5) (dj := 10) (b := false) rfl rfl (congrArg Value.bool c13_f) (T_val (v := (Value.pointer (some ⟨b2_, 0, none⟩))) (by kernel_rfl) ?_)
    refine S_yes (j := 5) (dj := 10) (b := false) rfl rfl (congrArg Value.bool c13_f) (T_val (v := (Value.int .i64 a)) (x_load1 rfl Try.underlying2 rfl ((Holds.rd H9_ 1 rfl) 0 (Value.int .i64 a) rfl)) ?_)
    refine S_yes (j := 5) (dj := 10) (b := false) rfl rfl (congrArg Value.bool c13_f) (T_val (v := (Value.pointer (some ⟨b7_, 0, none⟩))) (by kernel_rfl) ?_)
    refine S_yes (j := 5) (dj := 10) (b := false) rfl rfl (congrArg Value.bool c13_f) (T_val (v := (Value.int .i64 c)) (x_load1 rfl Try.underlying2 rfl ((Holds.rd H9_ 0 rfl) 0 (Value.int .i64 c) rfl)) ?_)
    refine S_yes (j := 5) (dj := 10) (b := false) rfl rfl (congrArg Value.bool c13_f) (T_val (v := (Value.bool (decide (a = c)))) (x_bin rfl rfl rfl) ?_)
    refine S_yes (j := 5) (dj := 10) (b := false) rfl rfl (congrArg Value.bool c13_f) (T_val (v := (Value.bool (decide (a = c)))) (x_move rfl) ?_)
    rcases Bool.eq_false_or_eq_true (decide (a = c)) with c15_t | c15_f
    · have c15_tp : a = c := of_decide_eq_true c15_t
      refine S_yes (j := 11) (dj := 16) (b := true) rfl rfl (congrArg Value.bool c15_t) (T_val (v := (Value.pointer (some ⟨b2_, 1, none⟩))) (by kernel_rfl) ?_)
      refine S_yes (j := 11) (dj := 16) (b := true) rfl rfl (congrArg Value.bool c15_t) (T_val (v := (Value.int .i64 b)) (x_load1 rfl Try.underlying2 rfl ((Holds.rd H9_ 1 rfl) 1 (Value.int .i64 b) rfl)) ?_)
      refine S_yes (j := 11) (dj := 16) (b := true) rfl rfl (congrArg Value.bool c15_t) (T_val (v := (Value.pointer (some ⟨b7_, 1, none⟩))) (by kernel_rfl) ?_)
      refine S_yes (j := 11) (dj := 16) (b := true) rfl rfl (congrArg Value.bool c15_t) (T_val (v := (Value.int .i64 d)) (x_load1 rfl Try.underlying2 rfl ((Holds.rd H9_ 0 rfl) 1 (Value.int .i64 d) rfl)) ?_)
      refine S_yes (j := 11) (dj := 16) (b := true) rfl rfl (congrArg Value.bool c15_t) (T_val (v := (Value.bool (decide (b < d)))) (x_bin rfl rfl rfl) ?_)
      refine S_yes (j := 5) (dj := 10) (b := false) rfl rfl (congrArg Value.bool c13_f) (T_pickT (v := (Value.bool (decide (b < d)))) (congrArg Value.bool c15_t) rfl ?_)
      refine S_list (T_pickF (v := (Value.bool (decide (b < d)))) (congrArg Value.bool c13_f) rfl ?_)
      refine S_list (T_val (v := (Value.bool (decide (b < d)))) (x_assign rfl) ?_)
      refine wpList_nil ?_
      refine (X_then (hK12_ _ _ ?_))
      clear hK12_
      refine C_ret ?_
      refine R_any (v := (Value.bool (decide (b < d)))) (run_results1 rfl rfl) ?_
      have H16_ : Holds w8_ (ro R :: F) := (Holds.erase (Holds.erase (Holds.bring H9_ 2 rfl) 1) 1)
      exact ⟨_, [], rfl, ⟨decide (b < d), rfl, rfl⟩, S11_, H16_⟩
    · have c15_fp : ¬ (a = c) := of_decide_eq_false c15_f
      refine S_no (j := 11) (dj := 16) (b := false) rfl rfl (congrArg Value.bool c15_f) (by decide) ?_
      refine S_no (j := 11) (dj := 16) (b := false) rfl rfl (congrArg Value.bool c15_f) (by decide) ?_
      refine S_no (j := 11) (dj := 16) (b := false) rfl rfl (congrArg Value.bool c15_f) (by decide) ?_
      refine S_no (j := 11) (dj := 16) (b := false) rfl rfl (congrArg Value.bool c15_f) (by decide) ?_
      refine S_no (j := 11) (dj := 16) (b := false) rfl rfl (congrArg Value.bool c15_f) (by decide) ?_
      refine S_yes (j := 5) (dj := 10) (b := false) rfl rfl (congrArg Value.bool c13_f) (T_pickF (v := (Value.bool false)) (congrArg Value.bool c15_f) rfl ?_)
      refine S_list (T_pickF (v := (Value.bool false)) (congrArg Value.bool c13_f) rfl ?_)
      refine S_list (T_val (v := (Value.bool false)) (x_assign rfl) ?_)
      refine wpList_nil ?_
      refine (X_then (hK12_ _ _ ?_))
      clear hK12_
      refine C_ret ?_
      refine R_any (v := (Value.bool false)) (run_results1 rfl rfl) ?_
      have H17_ : Holds w8_ (ro R :: F) := (Holds.erase (Holds.erase (Holds.bring H9_ 2 rfl) 1) 1)
      exact ⟨_, [], rfl, ⟨false, rfl, rfl⟩, S11_, H17_⟩

set_option maxHeartbeats 1000000 in
theorem lRoGood (R : HP) (v : Value) (L : List RW) (hL : RS R 9 v L.length (L.flatMap RW.cells)) :
    Tri Try.prog 40 #[v] R [] (fun v__ post__ => ∃ (b : Bool), v__ = (Value.bool b) ∧ post__ = [] ∧ (b = true → L.length ≤ 200 ∧ ∀ x ∈ L, 1 ≤ x.rev_Main ∧ 0 ≤ x.rev_Sub ∧ x.kV_Key.size ≤ 60 ∧ x.kV_Value.size ≤ 60)) := by
  refine Tri.into (n := 112) (al := [v]) Try.func40 rfl Try.ntmps40 rfl rfl fun w F H => ?_
  replace H : Holds w (ro R :: F) := H
  refine C_seq (fun K1_ hK1_ => ?_)
  refine C_reg ?_
  refine S_list (T_val (v := (Value.bool false)) (x_assign rfl) ?_)
  refine wpList_nil ?_
  refine (X_then (hK1_ _ _ ?_))
  clear hK1_
  refine C_seq (fun K2_ hK2_ => ?_)
  refine C_seq (fun K3_ hK3_ => ?_)
  refine C_reg ?_
  refine S_list (T_val (v := v) (x_move rfl) ?_)
  refine S_list (T_val (v := (Value.int .i64 (L.length : Int))) (x_lenRS rfl hL Try.underlying34) ?_)
  refine S_list (T_val (v := (Value.bool (decide (200 < (L.length : Int))))) (x_bin rfl rfl rfl) ?_)
  refine wpList_nil ?_
  refine (X_then (hK3_ _ _ ?_))
  clear hK3_
  refine C_cond (b := decide (200 < (L.length : Int))) rfl (fun c4_t => ?_) (fun c4_f => ?_)
  · have c4_tp : 200 < (L.length : Int) := of_decide_eq_true c4_t
    refine C_seq (fun K5_ hK5_ => ?_)
    refine C_reg ?_
    refine S_list (T_val (v := (Value.bool false)) (x_assign rfl) ?_)
    refine wpList_nil ?_
    refine (X_then (hK5_ _ _ ?_))
    clear hK5_
    refine C_ret (X_thenR ?_)
    refine R_any (v := (Value.bool false)) (run_results1 rfl rfl) ?_
    exact ⟨_, [], rfl, ⟨false, rfl, rfl, (fun h => by first | (cases h; done) | exact ⟨by omega, fun x hx => by obtain ⟨i, hi, e⟩ := List.getElem_of_mem hx; exact hall i x (by omega) (by rw [List.getElem?_eq_getElem hi, e])⟩)⟩, (Same.refl w), H⟩
  · have c4_fp : ¬ (200 < (L.length : Int)) := of_decide_eq_false c4_f
    refine C_skip (X_then (hK2_ _ _ ?_))
    clear hK2_
    refine C_seq (fun K6_ hK6_ => ?_)
    refine C_seq (fun K7_ hK7_ => ?_)
    refine C_reg ?_
    refine S_list (T_val (v := v) (x_move rfl) ?_)
    refine S_list (T_val (v := (Value.int .i64 (L.length : Int))) (x_lenRS rfl hL Try.underlying34) ?_)
    refine S_list (T_val (v := (Value.int .i64 0)) (x_move rfl) ?_)
    refine wpList_nil ?_
    refine (X_then (hK7_ _ _ ?_))
    clear hK7_
    refine C_block ?_
    refine C_loop (γ := Nat × Bool) (fun x__ a__ w1__ => match x__ with | ⟨k, s2_v⟩ => ∃ h : Env, a__ = mkA 112 (upd (upd (upd (upd (upd h 0 v) 2 (Value.bool s2_v)) 8 v) 9 (Value.int .i64 (L.length : Int))) 10 (Value.int .i64 (k : Int))) [] ∧ Holds w1__ (ro R :: F) ∧ Same w w1__ ∧ (k ≤ L.length) ∧ (∀ (i : Nat) (x : RW), i < k → L[i]? = some x → 1 ≤ x.rev_Main ∧ 0 ≤ x.rev_Sub ∧ x.kV_Key.size ≤ 60 ∧ x.kV_Value.size ≤ 60)) (fun x__ => match x__ with | ⟨k, s2_v⟩ => L.length - k) (⟨0, false⟩) ⟨_, congrArg (fun e => mkA 112 e []) (ch (ch (ch (ch (ch rfl rfl) rfl) rfl) rfl) (congrArg (Value.int .i64) ((by first | rfl | omega | (simp; done) | (simp; omega)) : 0 = (0 : Int)))), H, (Same.refl w), (by first | assumption | omega | exact rfl), (fun i x h => by omega)⟩ ?_
    rintro ⟨k, s2_v⟩ _ w8_ ⟨h, rfl, H9_, S10_, hk, hall⟩
    refine C_seq (fun K11_ hK11_ => ?_)
    refine C_reg ?_
    refine S_list (T_val (v := (Value.bool (decide ((k : Int) < (L.length : Int))))) (x_bin rfl rfl rfl) ?_)
    refine wpList_nil ?_
    refine (X_then (hK11_ _ _ ?_))
    clear hK11_
    refine C_seq (fun K12_ hK12_ => ?_)
    refine C_cond (b := decide ((k : Int) < (L.length : Int))) rfl (fun c13_t => ?_) (fun c13_f => ?_)
    · have c13_tp : (k : Int) < (L.length : Int) := of_decide_eq_true c13_t
      refine C_skip (X_then (hK12_ _ _ ?_))
      clear hK12_
      refine C_seq (fun K14_ hK14_ => ?_)
      refine C_block ?_
      refine C_seq (fun K15_ hK15_ => ?_)
      refine C_reg ?_
      refine S_list (T_val (v := (Value.int .i64 (k : Int))) (x_move rfl) ?_)
      obtain ⟨x16_, hx17_, hm18_⟩ := elem_at L k (by omega)
      refine S_list (T_val (v := (Value.pointer (some ⟨(sb v), so v + (k * 9 + 0), none⟩))) (x_idxRS (v := v) rfl hL rfl Try.underlying34 z42 (by omega) (by omega) (by omega : _ = k) rfl) ?_)
      refine S_list (T_val (v := (Value.agg #[(Value.int .i64 x16_.rev_Main), (Value.int .i64 x16_.rev_Sub), (Value.bool x16_.gone), (Value.string x16_.kV_Key), (Value.string x16_.kV_Value), (Value.int .i64 x16_.kV_Create), (Value.int .i64 x16_.kV_Mod), (Value.int .i64 x16_.kV_Version), (Value.int .i64 x16_.kV_Lease)])) (x_loadN (vs := [(Value.int .i64 x16_.rev_Main), (Value.int .i64 x16_.rev_Sub), (Value.bool x16_.gone), (Value.string x16_.kV_Key), (Value.string x16_.kV_Value), (Value.int .i64 x16_.kV_Create), (Value.int .i64 x16_.kV_Mod), (Value.int .i64 x16_.kV_Version), (Value.int .i64 x16_.kV_Lease)]) rfl Try.underlying42 rfl z42 rfl (RC.cells (RS.rc hL) (Holds.ro_at H9_ 0 rfl) (k * 9 + 0) (fm_cells RW.len hx17_ (i := 0) rfl))) ?_)
      refine S_list (T_alloc z42 H9_ ?_)
      intro b19_ w20_ S22_ H21_
      replace H21_ : Holds w20_ (cl b19_ 42 [(Value.int .i64 0), (Value.int .i64 0), (Value.bool false), (Value.string ByteArray.empty), (Value.string ByteArray.empty), (Value.int .i64 0), (Value.int .i64 0), (Value.int .i64 0), (Value.int .i64 0)] :: ro R :: F) := H21_
      have S23_ := Same.trans S10_ S22_
      refine S_list (T_val (v := (Value.int .i64 (k : Int))) (x_assign rfl) ?_)
      refine S_list0 (T_storeN (vs := [(Value.int .i64 x16_.rev_Main), (Value.int .i64 x16_.rev_Sub), (Value.bool x16_.gone), (Value.string x16_.kV_Key), (Value.string x16_.kV_Value), (Value.int .i64 x16_.kV_Create), (Value.int .i64 x16_.kV_Mod), (Value.int .i64 x16_.kV_Version), (Value.int .i64 x16_.kV_Lease)]) rfl rfl z42 rfl (by simp [Value.oneCell']) H21_ 0 rfl (Nat.le_of_ble_eq_true (by rfl)) ?_)
      intro w24_ S26_ H25_
      replace H25_ : Holds w24_ (cl b19_ 42 [(Value.int .i64 x16_.rev_Main), (Value.int .i64 x16_.rev_Sub), (Value.bool x16_.gone), (Value.string x16_.kV_Key), (Value.string x16_.kV_Value), (Value.int .i64 x16_.kV_Create), (Value.int .i64 x16_.kV_Mod), (Value.int .i64 x16_.kV_Version), (Value.int .i64 x16_.kV_Lease)] :: ro R :: F) := H25_
      have S27_ := Same.trans S23_ S26_
      refine wpList_nil ?_
      refine (X_then (hK15_ _ _ ?_))
      clear hK15_
      refine C_cut (fun a__ w1__ => ∃ s2_v : Bool, ∃ h : Env, a__ = mkA 112 (upd (upd (upd (upd (upd (upd h 0 v) 2 (Value.bool s2_v)) 4 (Value.pointer (some ⟨b19_, 0, none⟩))) 8 v) 9 (Value.int .i64 (L.length : Int))) 10 (Value.int .i64 (k : Int))) [] ∧ Holds w1__ (cl b19_ 42 [(Value.int .i64 x16_.rev_Main), (Value.int .i64 x16_.rev_Sub), (Value.bool x16_.gone), (Value.string x16_.kV_Key), (Value.string x16_.kV_Value), (Value.int .i64 x16_.kV_Create), (Value.int .i64 x16_.kV_Mod), (Value.int .i64 x16_.kV_Version), (Value.int .i64 x16_.kV_Lease)] :: ro R :: F) ∧ Same w w1__ ∧ (1 ≤ x16_.rev_Main ∧ 0 ≤ x16_.rev_Sub ∧ x16_.kV_Key.size ≤ 60 ∧ x16_.kV_Value.size ≤ 60)) ?_ ?_
      · refine C_seq (fun K31_ hK31_ => ?_)
        refine A_start (S := fun w => Rd b19_ [(Value.int .i64 x16_.rev_Main), (Value.int .i64 x16_.rev_Sub), (Value.bool x16_.gone), (Value.string x16_.kV_Key), (Value.string x16_.kV_Value), (Value.int .i64 x16_.kV_Create), (Value.int .i64 x16_.kV_Mod), (Value.int .i64 x16_.kV_Version), (Value.int .i64 x16_.kV_Lease)] w ∧ Sub R (hp w)) (N := 46) foll rfl rfl ?_
        have H32_ : Holds w24_.drew (cl b19_ 42 [(Value.int .i64 x16_.rev_Main), (Value.int .i64 x16_.rev_Sub), (Value.bool x16_.gone), (Value.string x16_.kV_Key), (Value.string x16_.kV_Value), (Value.int .i64 x16_.kV_Create), (Value.int .i64 x16_.kV_Mod), (Value.int .i64 x16_.kV_Version), (Value.int .i64 x16_.kV_Lease)] :: ro R :: F) := H25_
        have hq33_ := And.intro (Holds.rd H32_ 0 rfl) ((Holds.ro_at H32_ 1 rfl))
        refine A_tk 0 (v := (Value.pointer (some ⟨b19_, 0, none⟩))) rfl (by kernel_rfl) (fun w hS => by kernel_rfl) hq33_ ?_
        refine A_tk 1 (v := (Value.pointer (some ⟨b19_, 0, none⟩))) rfl (by kernel_rfl) (fun w hS => by kernel_rfl) hq33_ ?_
        refine A_tk 2 (v := (Value.int .i64 x16_.rev_Main)) rfl (by kernel_rfl) (fun w hS => x_load1 rfl Try.underlying2 rfl (hS.1 0 (Value.int .i64 x16_.rev_Main) rfl)) hq33_ ?_
        refine A_tk 3 (v := (Value.bool (decide (x16_.rev_Main < 1)))) rfl (by kernel_rfl) (fun w hS => x_bin rfl rfl rfl) hq33_ ?_
        refine A_tk 4 (v := (Value.bool (decide (x16_.rev_Main < 1)))) rfl (by kernel_rfl) (fun w hS => x_move rfl) hq33_ ?_
        rcases Bool.eq_false_or_eq_true (decide (x16_.rev_Main < 1)) with c34_t | c34_f
        · have c34_tp : x16_.rev_Main < 1 := of_decide_eq_true c34_t
          refine A_tkN 5 (j := 4) (dj := 19) (b := true) rfl (by kernel_rfl) rfl rfl (congrArg Value.bool c34_t) (by decide) hq33_ ?_
          refine A_tkN 6 (j := 4) (dj := 19) (b := true) rfl (by kernel_rfl) rfl rfl (congrArg Value.bool c34_t) (by decide) hq33_ ?_
          refine A_tkN 7 (j := 4) (dj := 19) (b := true) rfl (by kernel_rfl) rfl rfl (congrArg Value.bool c34_t) (by decide) hq33_ ?_
          refine A_tkN 8 (j := 4) (dj := 19) (b := true) rfl (by kernel_rfl) rfl rfl (congrArg Value.bool c34_t) (by decide) hq33_ ?_
          refine A_tk 9 (v := (Value.bool true)) rfl (by kernel_rfl) (fun w hS => (x_pickT (congrArg Value.bool c34_t) rfl)) hq33_ ?_
          refine A_tk 10 (v := (Value.bool true)) rfl (by kernel_rfl) (fun w hS => x_move rfl) hq33_ ?_
          refine A_tkN 11 (j := 10) (dj := 25) (b := true) rfl (by kernel_rfl) rfl rfl rfl (by decide) hq33_ ?_
          refine A_tkN 12 (j := 10) (dj := 25) (b := true) rfl (by kernel_rfl) rfl rfl rfl (by decide) hq33_ ?_
          refine A_tkN 13 (j := 10) (dj := 25) (b := true) rfl (by kernel_rfl) rfl rfl rfl (by decide) hq33_ ?_
          refine A_takeNoU 14 (ls' := #[true, true, true, true, true, true, true, true, true, true, true, true, true, true, true, false, false, false, false, false, false, false, false, false, false, false, false, false, false, false, false, false, false, false, false, false, false, false, false, false, false, false, false, false, false, false]) (j := 13) (dj := 28) rfl (by kernel_rfl) (by kernel_rfl) (by kernel_rfl) (by kernel_rfl) (fun _ _ _ h => h) rfl rfl rfl ⟨Holds.rd H32_ 0 rfl, (Holds.ro_at H32_ 1 rfl)⟩ ?_
          refine A_takeNoU 15 (ls' := #[true, true, true, true, true, true, true, true, true, true, true, true, true, true, true, true, false, false, false, false, false, false, false, false, false, false, false, false, false, false, false, false, false, false, false, false, false, false, false, false, false, false, false, false, false, false]) (j := 13) (dj := 28) rfl (by kernel_rfl) (by kernel_rfl) (by kernel_rfl) (by kernel_rfl) (fun _ _ _ h => h) rfl rfl rfl ⟨Holds.rd H32_ 0 rfl, (Holds.ro_at H32_ 1 rfl)⟩ ?_
          refine A_takeNoU 16 (ls' := #[true, true, true, true, true, true, true, true, true, true, true, true, true, true, true, true, true, false, false, false, false, false, false, false, false, false, false, false, false, false, false, false, false, false, false, false, false, false, false, false, false, false, false, false, false, false]) (j := 13) (dj := 28) rfl (by kernel_rfl) (by kernel_rfl) (by kernel_rfl) (by kernel_rfl) (fun _ _ _ h => h) rfl rfl rfl ⟨Holds.rd H32_ 0 rfl, (Holds.ro_at H32_ 1 rfl)⟩ ?_
          refine A_takeNoU 17 (ls' := #[true, true, true, true, true, true, true, true, true, true, true, true, true, true, true, true, true, true, false, false, false, false, false, false, false, false, false, false, false, false, false, false, false, false, false, false, false, false, false, false, false, false, false, false, false, false]) (j := 13) (dj := 28) rfl (by kernel_rfl) (by kernel_rfl) (by kernel_rfl) (by kernel_rfl) (fun _ _ _ h => h) rfl rfl rfl ⟨Holds.rd H32_ 0 rfl, (Holds.ro_at H32_ 1 rfl)⟩ ?_
          refine A_takeNoU 18 (ls' := #[true, true, true, true, true, true, true, true, true, true, true, true, true, true, true, true, true, true, true, false, false, false, false, false, false, false, false, false, false, false, false, false, false, false, false, false, false, false, false, false, false, false, false, false, false, false]) (j := 13) (dj := 28) rfl (by kernel_rfl) (by kernel_rfl) (by kernel_rfl) (by kernel_rfl) (fun _ _ _ h => h) rfl rfl rfl ⟨Holds.rd H32_ 0 rfl, (Holds.ro_at H32_ 1 rfl)⟩ ?_
          refine A_takeNoU 19 (ls' := #[true, true, true, true, true, true, true, true, true, true, true, true, true, true, true, true, true, true, true, true, false, false, false, false, false, false, false, false, false, false, false, false, false, false, false, false, false, false, false, false, false, false, false, false, false, false]) (j := 13) (dj := 28) rfl (by kernel_rfl) (by kernel_rfl) (by kernel_rfl) (by kernel_rfl) (fun _ _ _ h => h) rfl rfl rfl ⟨Holds.rd H32_ 0 rfl, (Holds.ro_at H32_ 1 rfl)⟩ ?_
          refine A_takeNoU 20 (ls' := #[true, true, true, true, true, true, true, true, true, true, true, true, true, true, true, true, true, true, true, true, true, false, false, false, false, false, false, false, false, false, false, false, false, false, false, false, false, false, false, false, false, false, false, false, false, false]) (j := 13) (dj := 28) rfl (by kernel_rfl) (by kernel_rfl) (by kernel_rfl) (by kernel_rfl) (fun _ _ _ h => h) rfl rfl rfl ⟨Holds.rd H32_ 0 rfl, (Holds.ro_at H32_ 1 rfl)⟩ ?_
          refine A_takeNoU 21 (ls' := #[true, true, true, true, true, true, true, true, true, true, true, true, true, true, true, true, true, true, true, true, true, true, false, false, false, false, false, false, false, false, false, false, false, false, false, false, false, false, false, false, false, false, false, false, false, false]) (j := 13) (dj := 28) rfl (by kernel_rfl) (by kernel_rfl) (by kernel_rfl) (by kernel_rfl) (fun _ _ _ h => h) rfl rfl rfl ⟨Holds.rd H32_ 0 rfl, (Holds.ro_at H32_ 1 rfl)⟩ ?_
          refine A_takeNoU 22 (ls' := #[true, true, true, true, true, true, true, true, true, true, true, true, true, true, true, true, true, true, true, true, true, true, true, false, false, false, false, false, false, false, false, false, false, false, false, false, false, false, false, false, false, false, false, false, false, false]) (j := 13) (dj := 28) rfl (by kernel_rfl) (by kernel_rfl) (by kernel_rfl) (by kernel_rfl) (fun _ _ _ h => h) rfl rfl rfl ⟨Holds.rd H32_ 0 rfl, (Holds.ro_at H32_ 1 rfl)⟩ ?_
          refine A_takeNoU 23 (ls' := #[true, true, true, true, true, true, true, true, true, true, true, true, true, true, true, true, true, true, true, true, true, true, true, true, false, false, false, false, false, false, false, false, false, false, false, false, false, false, false, false, false, false, false, false, false, false]) (j := 13) (dj := 28) rfl (by kernel_rfl) (by kernel_rfl) (by kernel_rfl) (by kernel_rfl) (fun _ _ _ h => h) rfl rfl rfl ⟨Holds.rd H32_ 0 rfl, (Holds.ro_at H32_ 1 rfl)⟩ ?_
          refine A_tkN 24 (j := 10) (dj := 25) (b := true) rfl (by kernel_rfl) rfl rfl rfl (by decide) hq33_ ?_
          refine A_tk 25 (v := (Value.bool true)) rfl (by kernel_rfl) (fun w hS => (x_pickT rfl rfl)) hq33_ ?_
          refine A_tk 26 (v := (Value.bool true)) rfl (by kernel_rfl) (fun w hS => x_move rfl) hq33_ ?_
          refine A_tkN 27 (j := 26) (dj := 41) (b := true) rfl (by kernel_rfl) rfl rfl rfl (by decide) hq33_ ?_
          refine A_tkN 28 (j := 26) (dj := 41) (b := true) rfl (by kernel_rfl) rfl rfl rfl (by decide) hq33_ ?_
          refine A_tkN 29 (j := 26) (dj := 41) (b := true) rfl (by kernel_rfl) rfl rfl rfl (by decide) hq33_ ?_
          refine A_tkN 30 (j := 26) (dj := 41) (b := true) rfl (by kernel_rfl) rfl rfl rfl (by decide) hq33_ ?_
          refine A_tk 31 (v := (Value.bool true)) rfl (by kernel_rfl) (fun w hS => (x_pickT rfl rfl)) hq33_ ?_
          refine A_tk 32 (v := (Value.bool true)) rfl (by kernel_rfl) (fun w hS => x_move rfl) hq33_ ?_
          refine A_tkN 33 (j := 32) (dj := 47) (b := true) rfl (by kernel_rfl) rfl rfl rfl (by decide) hq33_ ?_
          refine A_tkN 34 (j := 32) (dj := 47) (b := true) rfl (by kernel_rfl) rfl rfl rfl (by decide) hq33_ ?_
          refine A_tkN 35 (j := 32) (dj := 47) (b := true) rfl (by kernel_rfl) rfl rfl rfl (by decide) hq33_ ?_
          refine A_tkN 36 (j := 32) (dj := 47) (b := true) rfl (by kernel_rfl) rfl rfl rfl (by decide) hq33_ ?_
          refine A_tkN 37 (j := 32) (dj := 47) (b := true) rfl (by kernel_rfl) rfl rfl rfl (by decide) hq33_ ?_
          refine A_tk 38 (v := (Value.bool true)) rfl (by kernel_rfl) (fun w hS => (x_pickT rfl rfl)) hq33_ ?_
          refine A_tk 39 (v := (Value.bool true)) rfl (by kernel_rfl) (fun w hS => x_move rfl) hq33_ ?_
          refine A_tkN 40 (j := 39) (dj := 54) (b := true) rfl (by kernel_rfl) rfl rfl rfl (by decide) hq33_ ?_
          refine A_tkN 41 (j := 39) (dj := 54) (b := true) rfl (by kernel_rfl) rfl rfl rfl (by decide) hq33_ ?_
          refine A_tkN 42 (j := 39) (dj := 54) (b := true) rfl (by kernel_rfl) rfl rfl rfl (by decide) hq33_ ?_
          refine A_tkN 43 (j := 39) (dj := 54) (b := true) rfl (by kernel_rfl) rfl rfl rfl (by decide) hq33_ ?_
          refine A_tkN 44 (j := 39) (dj := 54) (b := true) rfl (by kernel_rfl) rfl rfl rfl (by decide) hq33_ ?_
          refine A_tk 45 (v := (Value.bool true)) rfl (by kernel_rfl) (fun w hS => (x_pickT rfl rfl)) hq33_ ?_
          refine A_done (by kernel_rfl) ?_
          refine (X_then (hK31_ _ _ ?_))
          clear hK31_
          refine C_condT rfl ?_
          refine C_seq (fun K35_ hK35_ => ?_)
          refine C_reg ?_
          refine S_list (T_val (v := (Value.bool false)) (x_assign rfl) ?_)
          refine wpList_nil ?_
          refine (X_then (hK35_ _ _ ?_))
          clear hK35_
          refine C_ret (X_thenR (X_blkR (X_thenR (X_thenR (X_blkR (X_thenR ?_))))))
          refine R_any (v := (Value.bool false)) (run_results1 rfl rfl) ?_
          have H36_ : Holds w24_.drew (ro R :: F) := (Holds.erase (Holds.bring H32_ 1 rfl) 1)
          exact ⟨_, [], rfl, ⟨false, rfl, rfl, (fun h => by first | (cases h; done) | exact ⟨by omega, fun x hx => by obtain ⟨i, hi, e⟩ := List.getElem_of_mem hx; exact hall i x (by omega) (by rw [List.getElem?_eq_getElem hi, e])⟩)⟩, (Same.trans S27_ (Same.drew _)), H36_⟩
        · have c34_fp : ¬ (x16_.rev_Main < 1) := of_decide_eq_false c34_f
          refine A_tkY 5 (j := 4) (dj := 19) (b := false) (v := (Value.pointer (some ⟨b19_, 0, none⟩))) rfl (by kernel_rfl) rfl rfl (congrArg Value.bool c34_f) (fun w hS => by kernel_rfl) hq33_ ?_
          refine A_tkY 6 (j := 4) (dj := 19) (b := false) (v := (Value.pointer (some ⟨b19_, 1, none⟩))) rfl (by kernel_rfl) rfl rfl (congrArg Value.bool c34_f) (fun w hS => by kernel_rfl) hq33_ ?_
          refine A_tkY 7 (j := 4) (dj := 19) (b := false) (v := (Value.int .i64 x16_.rev_Sub)) rfl (by kernel_rfl) rfl rfl (congrArg Value.bool c34_f) (fun w hS => x_load1 rfl Try.underlying2 rfl (hS.1 1 (Value.int .i64 x16_.rev_Sub) rfl)) hq33_ ?_
          refine A_tkY 8 (j := 4) (dj := 19) (b := false) (v := (Value.bool (decide (x16_.rev_Sub < 0)))) rfl (by kernel_rfl) rfl rfl (congrArg Value.bool c34_f) (fun w hS => x_bin rfl rfl rfl) hq33_ ?_
          refine A_tk 9 (v := (Value.bool (decide (x16_.rev_Sub < 0)))) rfl (by kernel_rfl) (fun w hS => (x_pickF (congrArg Value.bool c34_f) rfl)) hq33_ ?_
          refine A_tk 10 (v := (Value.bool (decide (x16_.rev_Sub < 0)))) rfl (by kernel_rfl) (fun w hS => x_move rfl) hq33_ ?_
          rcases Bool.eq_false_or_eq_true (decide (x16_.rev_Sub < 0)) with c37_t | c37_f
          · have c37_tp : x16_.rev_Sub < 0 := of_decide_eq_true c37_t
            refine A_tkN 11 (j := 10) (dj := 25) (b := true) rfl (by kernel_rfl) rfl rfl (congrArg Value.bool c37_t) (by decide) hq33_ ?_
            refine A_tkN 12 (j := 10) (dj := 25) (b := true) rfl (by kernel_rfl) rfl rfl (congrArg Value.bool c37_t) (by decide) hq33_ ?_
            refine A_tkN 13 (j := 10) (dj := 25) (b := true) rfl (by kernel_rfl) rfl rfl (congrArg Value.bool c37_t) (by decide) hq33_ ?_
            refine A_takeNoU 14 (ls' := #[true, true, true, true, true, true, true, true, true, true, true, true, true, true, true, false, false, false, false, false, false, false, false, false, false, false, false, false, false, false, false, false, false, false, false, false, false, false, false, false, false, false, false, false, false, false]) (j := 13) (dj := 28) rfl (by kernel_rfl) (by kernel_rfl) (by kernel_rfl) (by kernel_rfl) (fun _ _ _ h => h) rfl rfl rfl ⟨Holds.rd H32_ 0 rfl, (Holds.ro_at H32_ 1 rfl)⟩ ?_
            refine A_takeNoU 15 (ls' := #[true, true, true, true, true, true, true, true, true, true, true, true, true, true, true, true, false, false, false, false, false, false, false, false, false, false, false, false, false, false, false, false, false, false, false, false, false, false, false, false, false, false, false, false, false, false]) (j := 13) (dj := 28) rfl (by kernel_rfl) (by kernel_rfl) (by kernel_rfl) (by kernel_rfl) (fun _ _ _ h => h) rfl rfl rfl ⟨Holds.rd H32_ 0 rfl, (Holds.ro_at H32_ 1 rfl)⟩ ?_
            refine A_takeNoU 16 (ls' := #[true, true, true, true, true, true, true, true, true, true, true, true, true, true, true, true, true, false, false, false, false, false, false, false, false, false, false, false, false, false, false, false, false, false, false, false, false, false, false, false, false, false, false, false, false, false]) (j := 13) (dj := 28) rfl (by kernel_rfl) (by kernel_rfl) (by kernel_rfl) (by kernel_rfl) (fun _ _ _ h => h) rfl rfl rfl ⟨Holds.rd H32_ 0 rfl, (Holds.ro_at H32_ 1 rfl)⟩ ?_
            refine A_takeNoU 17 (ls' := #[true, true, true, true, true, true, true, true, true, true, true, true, true, true, true, true, true, true, false, false, false, false, false, false, false, false, false, false, false, false, false, false, false, false, false, false, false, false, false, false, false, false, false, false, false, false]) (j := 13) (dj := 28) rfl (by kernel_rfl) (by kernel_rfl) (by kernel_rfl) (by kernel_rfl) (fun _ _ _ h => h) rfl rfl rfl ⟨Holds.rd H32_ 0 rfl, (Holds.ro_at H32_ 1 rfl)⟩ ?_
            refine A_takeNoU 18 (ls' := #[true, true, true, true, true, true, true, true, true, true, true, true, true, true, true, true, true, true, true, false, false, false, false, false, false, false, false, false, false, false, false, false, false, false, false, false, false, false, false, false, false, false, false, false, false, false]) (j := 13) (dj := 28) rfl (by kernel_rfl) (by kernel_rfl) (by kernel_rfl) (by kernel_rfl) (fun _ _ _ h => h) rfl rfl rfl ⟨Holds.rd H32_ 0 rfl, (Holds.ro_at H32_ 1 rfl)⟩ ?_
            refine A_takeNoU 19 (ls' := #[true, true, true, true, true, true, true, true, true, true, true, true, true, true, true, true, true, true, true, true, false, false, false, false, false, false, false, false, false, false, false, false, false, false, false, false, false, false, false, false, false, false, false, false, false, false]) (j := 13) (dj := 28) rfl (by kernel_rfl) (by kernel_rfl) (by kernel_rfl) (by kernel_rfl) (fun _ _ _ h => h) rfl rfl rfl ⟨Holds.rd H32_ 0 rfl, (Holds.ro_at H32_ 1 rfl)⟩ ?_
            refine A_takeNoU 20 (ls' := #[true, true, true, true, true, true, true, true, true, true, true, true, true, true, true, true, true, true, true, true, true, false, false, false, false, false, false, false, false, false, false, false, false, false, false, false, false, false, false, false, false, false, false, false, false, false]) (j := 13) (dj := 28) rfl (by kernel_rfl) (by kernel_rfl) (by kernel_rfl) (by kernel_rfl) (fun _ _ _ h => h) rfl rfl rfl ⟨Holds.rd H32_ 0 rfl, (Holds.ro_at H32_ 1 rfl)⟩ ?_
            refine A_takeNoU 21 (ls' := #[true, true, true, true, true, true, true, true, true, true, true, true, true, true, true, true, true, true, true, true, true, true, false, false, false, false, false, false, false, false, false, false, false, false, false, false, false, false, false, false, false, false, false, false, false, false]) (j := 13) (dj := 28) rfl (by kernel_rfl) (by kernel_rfl) (by kernel_rfl) (by kernel_rfl) (fun _ _ _ h => h) rfl rfl rfl ⟨Holds.rd H32_ 0 rfl, (Holds.ro_at H32_ 1 rfl)⟩ ?_
            refine A_takeNoU 22 (ls' := #[true, true, true, true, true, true, true, true, true, true, true, true, true, true, true, true, true, true, true, true, true, true, true, false, false, false, false, false, false, false, false, false, false, false, false, false, false, false, false, false, false, false, false, false, false, false]) (j := 13) (dj := 28) rfl (by kernel_rfl) (by kernel_rfl) (by kernel_rfl) (by kernel_rfl) (fun _ _ _ h => h) rfl rfl rfl ⟨Holds.rd H32_ 0 rfl, (Holds.ro_at H32_ 1 rfl)⟩ ?_
            refine A_takeNoU 23 (ls' := #[true, true, true, true, true, true, true, true, true, true, true, true, true, true, true, true, true, true, true, true, true, true, true, true, false, false, false, false, false, false, false, false, false, false, false, false, false, false, false, false, false, false, false, false, false, false]) (j := 13) (dj := 28) rfl (by kernel_rfl) (by kernel_rfl) (by kernel_rfl) (by kernel_rfl) (fun _ _ _ h => h) rfl rfl rfl ⟨Holds.rd H32_ 0 rfl, (Holds.ro_at H32_ 1 rfl)⟩ ?_
            refine A_tkN 24 (j := 10) (dj := 25) (b := true) rfl (by kernel_rfl) rfl rfl (congrArg Value.bool c37_t) (by decide) hq33_ ?_
            refine A_tk 25 (v := (Value.bool true)) rfl (by kernel_rfl) (fun w hS => (x_pickT (congrArg Value.bool c37_t) rfl)) hq33_ ?_
            refine A_tk 26 (v := (Value.bool true)) rfl (by kernel_rfl) (fun w hS => x_move rfl) hq33_ ?_
            refine A_tkN 27 (j := 26) (dj := 41) (b := true) rfl (by kernel_rfl) rfl rfl rfl (by decide) hq33_ ?_
            refine A_tkN 28 (j := 26) (dj := 41) (b := true) rfl (by kernel_rfl) rfl rfl rfl (by decide) hq33_ ?_
            refine A_tkN 29 (j := 26) (dj := 41) (b := true) rfl (by kernel_rfl) rfl rfl rfl (by decide) hq33_ ?_
            refine A_tkN 30 (j := 26) (dj := 41) (b := true) rfl (by kernel_rfl) rfl rfl rfl (by decide) hq33_ ?_
            refine A_tk 31 (v := (Value.bool true)) rfl (by kernel_rfl) (fun w hS => (x_pickT rfl rfl)) hq33_ ?_
            refine A_tk 32 (v := (Value.bool true)) rfl (by kernel_rfl) (fun w hS => x_move rfl) hq33_ ?_
            refine A_tkN 33 (j := 32) (dj := 47) (b := true) rfl (by kernel_rfl) rfl rfl rfl (by decide) hq33_ ?_
            refine A_tkN 34 (j := 32) (dj := 47) (b := true) rfl (by kernel_rfl) rfl rfl rfl (by decide) hq33_ ?_
            refine A_tkN 35 (j := 32) (dj := 47) (b := true) rfl (by kernel_rfl) rfl rfl rfl (by decide) hq33_ ?_
            refine A_tkN 36 (j := 32) (dj := 47) (b := true) rfl (by kernel_rfl) rfl rfl rfl (by decide) hq33_ ?_
            refine A_tkN 37 (j := 32) (dj := 47) (b := true) rfl (by kernel_rfl) rfl rfl rfl (by decide) hq33_ ?_
            refine A_tk 38 (v := (Value.bool true)) rfl (by kernel_rfl) (fun w hS => (x_pickT rfl rfl)) hq33_ ?_
            refine A_tk 39 (v := (Value.bool true)) rfl (by kernel_rfl) (fun w hS => x_move rfl) hq33_ ?_
            refine A_tkN 40 (j := 39) (dj := 54) (b := true) rfl (by kernel_rfl) rfl rfl rfl (by decide) hq33_ ?_
            refine A_tkN 41 (j := 39) (dj := 54) (b := true) rfl (by kernel_rfl) rfl rfl rfl (by decide) hq33_ ?_
            refine A_tkN 42 (j := 39) (dj := 54) (b := true) rfl (by kernel_rfl) rfl rfl rfl (by decide) hq33_ ?_
            refine A_tkN 43 (j := 39) (dj := 54) (b := true) rfl (by kernel_rfl) rfl rfl rfl (by decide) hq33_ ?_
            refine A_tkN 44 (j := 39) (dj := 54) (b := true) rfl (by kernel_rfl) rfl rfl rfl (by decide) hq33_ ?_
            refine A_tk 45 (v := (Value.bool true)) rfl (by kernel_rfl) (fun w hS => (x_pickT rfl rfl)) hq33_ ?_
            refine A_done (by kernel_rfl) ?_
            refine (X_then (hK31_ _ _ ?_))
            clear hK31_
            refine C_condT rfl ?_
            refine C_seq (fun K38_ hK38_ => ?_)
            refine C_reg ?_
            refine S_list (T_val (v := (Value.bool false)) (x_assign rfl) ?_)
            refine wpList_nil ?_
            refine (X_then (hK38_ _ _ ?_))
            clear hK38_
            refine C_ret (X_thenR (X_blkR (X_thenR (X_thenR (X_blkR (X_thenR ?_))))))
            refine R_any (v := (Value.bool false)) (run_results1 rfl rfl) ?_
            have H39_ : Holds w24_.drew (ro R :: F) := (Holds.erase (Holds.bring H32_ 1 rfl) 1)
            exact ⟨_, [], rfl, ⟨false, rfl, rfl, (fun h => by first | (cases h; done) | exact ⟨by omega, fun x hx => by obtain ⟨i, hi, e⟩ := List.getElem_of_mem hx; exact hall i x (by omega) (by rw [List.getElem?_eq_getElem hi, e])⟩)⟩, (Same.trans S27_ (Same.drew _)), H39_⟩
          · have c37_fp : ¬ (x16_.rev_Sub < 0) := of_decide_eq_false c37_f
            refine A_tkY 11 (j := 10) (dj := 25) (b := false) (v := (Value.int .i64 (k : Int))) rfl (by kernel_rfl) rfl rfl (congrArg Value.bool c37_f) (fun w hS => x_move rfl) hq33_ ?_
            refine A_tkY 12 (j := 10) (dj := 25) (b := false) (v := (Value.bool (decide (0 < (k : Int))))) rfl (by kernel_rfl) rfl rfl (congrArg Value.bool c37_f) (fun w hS => x_bin rfl rfl rfl) hq33_ ?_
            refine A_tkY 13 (j := 10) (dj := 25) (b := false) (v := (Value.bool (decide (0 < (k : Int))))) rfl (by kernel_rfl) rfl rfl (congrArg Value.bool c37_f) (fun w hS => x_move rfl) hq33_ ?_
            rcases Bool.eq_false_or_eq_true (decide (0 < (k : Int))) with c40_t | c40_f
            · have c40_tp : 0 < (k : Int) := of_decide_eq_true c40_t
              refine A_tkY 14 (j := 13) (dj := 28) (b := true) (v := v) rfl (by kernel_rfl) rfl rfl (congrArg Value.bool c40_t) (fun w hS => x_move rfl) hq33_ ?_
              refine A_tkY 15 (j := 13) (dj := 28) (b := true) (v := (Value.int .i64 (k : Int))) rfl (by kernel_rfl) rfl rfl (congrArg Value.bool c40_t) (fun w hS => x_move rfl) hq33_ ?_
              refine A_tkY 16 (j := 13) (dj := 28) (b := true) (v := (Value.int .i64 ((k : Int) - 1))) rfl (by kernel_rfl) rfl rfl (congrArg Value.bool c40_t) (fun w hS => x_bin rfl rfl (ib_sub (IntWalk.i64_in _ (by omega)))) hq33_ ?_
              obtain ⟨x41_, hx42_, hm43_⟩ := elem_at L (((k : Int) - 1).toNat) (by omega)
              refine A_tkY 17 (j := 13) (dj := 28) (b := true) (v := (Value.pointer (some ⟨(sb v), so v + ((((k : Int) - 1).toNat) * 9 + 0), none⟩))) rfl (by kernel_rfl) rfl rfl (congrArg Value.bool c40_t) (fun w hS => x_idxRS (v := v) rfl hL rfl Try.underlying34 z42 (by omega) (by omega) (by omega : _ = ((k : Int) - 1).toNat) rfl) hq33_ ?_
              refine A_tkY 18 (j := 13) (dj := 28) (b := true) (v := (Value.pointer (some ⟨(sb v), so v + ((((k : Int) - 1).toNat) * 9 + 0), none⟩))) rfl (by kernel_rfl) rfl rfl (congrArg Value.bool c40_t) (fun w hS => by kernel_rfl) hq33_ ?_
              refine A_tkY 19 (j := 13) (dj := 28) (b := true) (v := (Value.agg #[(Value.int .i64 x41_.rev_Main), (Value.int .i64 x41_.rev_Sub)])) rfl (by kernel_rfl) rfl rfl (congrArg Value.bool c40_t) (fun w hS => x_loadN (vs := [(Value.int .i64 x41_.rev_Main), (Value.int .i64 x41_.rev_Sub)]) rfl Try.underlying38 rfl z38 rfl (RC.cells (RS.rc hL) hS.2 ((((k : Int) - 1).toNat) * 9 + 0) (fm_cells RW.len hx42_ (i := 0) rfl))) hq33_ ?_
              refine A_tkY 20 (j := 13) (dj := 28) (b := true) (v := (Value.pointer (some ⟨b19_, 0, none⟩))) rfl (by kernel_rfl) rfl rfl (congrArg Value.bool c40_t) (fun w hS => by kernel_rfl) hq33_ ?_
              refine A_tkY 21 (j := 13) (dj := 28) (b := true) (v := (Value.agg #[(Value.int .i64 x16_.rev_Main), (Value.int .i64 x16_.rev_Sub)])) rfl (by kernel_rfl) rfl rfl (congrArg Value.bool c40_t) (fun w hS => x_loadN (vs := [(Value.int .i64 x16_.rev_Main), (Value.int .i64 x16_.rev_Sub)]) rfl Try.underlying38 rfl z38 rfl (Rd.cells hS.1 0 rfl)) hq33_ ?_
              refine A_ready (i := 22) (rs := []) (by kernel_rfl) ?_
              refine AllR.cons ?_ AllR.nil
              have H46_ : Holds w24_.drew (ro R :: cl b19_ 42 [(Value.int .i64 x16_.rev_Main), (Value.int .i64 x16_.rev_Sub), (Value.bool x16_.gone), (Value.string x16_.kV_Key), (Value.string x16_.kV_Value), (Value.int .i64 x16_.kV_Create), (Value.int .i64 x16_.kV_Mod), (Value.int .i64 x16_.kV_Version), (Value.int .i64 x16_.kV_Lease)] :: F) := (Holds.bring H32_ 1 rfl)
              refine A_opYes (ls' := #[true, true, true, true, true, true, true, true, true, true, true, true, true, true, true, true, true, true, true, true, true, true, true, false, false, false, false, false, false, false, false, false, false, false, false, false, false, false, false, false, false, false, false, false, false, false]) (j := 13) (dj := 28) (b := true) rfl (by kernel_rfl) rfl rfl (congrArg Value.bool c40_t) (T_call (al := [(Value.agg #[(Value.int .i64 x41_.rev_Main), (Value.int .i64 x41_.rev_Sub)]), (Value.agg #[(Value.int .i64 x16_.rev_Main), (Value.int .i64 x16_.rev_Sub)])]) (pre := []) (F := cl b19_ 42 [(Value.int .i64 x16_.rev_Main), (Value.int .i64 x16_.rev_Sub), (Value.bool x16_.gone), (Value.string x16_.kV_Key), (Value.string x16_.kV_Value), (Value.int .i64 x16_.kV_Create), (Value.int .i64 x16_.kV_Mod), (Value.int .i64 x16_.kV_Version), (Value.int .i64 x16_.kV_Lease)] :: F) rfl rfl cb66 (lLess R x41_.rev_Main x41_.rev_Sub x16_.rev_Main x16_.rev_Sub) H46_ ?_)
              rintro v44_ p50_ w47_ ⟨r45_, rfl, rfl⟩ S49_ H48_
              replace H48_ : Holds w47_ (ro R :: cl b19_ 42 [(Value.int .i64 x16_.rev_Main), (Value.int .i64 x16_.rev_Sub), (Value.bool x16_.gone), (Value.string x16_.kV_Key), (Value.string x16_.kV_Value), (Value.int .i64 x16_.kV_Create), (Value.int .i64 x16_.kV_Mod), (Value.int .i64 x16_.kV_Version), (Value.int .i64 x16_.kV_Lease)] :: F) := H48_
              have S51_ := Same.trans (Same.trans S27_ (Same.drew _)) S49_
              refine ⟨⟨Holds.rd H48_ 1 rfl, (Holds.ro_at H48_ 0 rfl)⟩, ?_⟩
              have hq52_ := And.intro (Holds.rd H48_ 1 rfl) ((Holds.ro_at H48_ 0 rfl))
              refine A_tkY 23 (j := 13) (dj := 28) (b := true) (v := (Value.bool (!r45_))) rfl (by kernel_rfl) rfl rfl (congrArg Value.bool c40_t) (fun w hS => x_not rfl) hq52_ ?_
              refine A_tkY 24 (j := 10) (dj := 25) (b := false) (v := (Value.bool (!r45_))) rfl (by kernel_rfl) rfl rfl (congrArg Value.bool c37_f) (fun w hS => (x_pickT (congrArg Value.bool c40_t) rfl)) hq52_ ?_
              refine A_tk 25 (v := (Value.bool (!r45_))) rfl (by kernel_rfl) (fun w hS => (x_pickF (congrArg Value.bool c37_f) rfl)) hq52_ ?_
              refine A_tk 26 (v := (Value.bool (!r45_))) rfl (by kernel_rfl) (fun w hS => x_move rfl) hq52_ ?_
              rcases Bool.eq_false_or_eq_true (!r45_) with c53_t | c53_f
              · skip
                refine A_tkN 27 (j := 26) (dj := 41) (b := true) rfl (by kernel_rfl) rfl rfl (congrArg Value.bool c53_t) (by decide) hq52_ ?_
                refine A_tkN 28 (j := 26) (dj := 41) (b := true) rfl (by kernel_rfl) rfl rfl (congrArg Value.bool c53_t) (by decide) hq52_ ?_
                refine A_tkN 29 (j := 26) (dj := 41) (b := true) rfl (by kernel_rfl) rfl rfl (congrArg Value.bool c53_t) (by decide) hq52_ ?_
                refine A_tkN 30 (j := 26) (dj := 41) (b := true) rfl (by kernel_rfl) rfl rfl (congrArg Value.bool c53_t) (by decide) hq52_ ?_
                refine A_tk 31 (v := (Value.bool true)) rfl (by kernel_rfl) (fun w hS => (x_pickT (congrArg Value.bool c53_t) rfl)) hq52_ ?_
                refine A_tk 32 (v := (Value.bool true)) rfl (by kernel_rfl) (fun w hS => x_move rfl) hq52_ ?_
                refine A_tkN 33 (j := 32) (dj := 47) (b := true) rfl (by kernel_rfl) rfl rfl rfl (by decide) hq52_ ?_
                refine A_tkN 34 (j := 32) (dj := 47) (b := true) rfl (by kernel_rfl) rfl rfl rfl (by decide) hq52_ ?_
                refine A_tkN 35 (j := 32) (dj := 47) (b := true) rfl (by kernel_rfl) rfl rfl rfl (by decide) hq52_ ?_
                refine A_tkN 36 (j := 32) (dj := 47) (b := true) rfl (by kernel_rfl) rfl rfl rfl (by decide) hq52_ ?_
                refine A_tkN 37 (j := 32) (dj := 47) (b := true) rfl (by kernel_rfl) rfl rfl rfl (by decide) hq52_ ?_
                refine A_tk 38 (v := (Value.bool true)) rfl (by kernel_rfl) (fun w hS => (x_pickT rfl rfl)) hq52_ ?_
                refine A_tk 39 (v := (Value.bool true)) rfl (by kernel_rfl) (fun w hS => x_move rfl) hq52_ ?_
                refine A_tkN 40 (j := 39) (dj := 54) (b := true) rfl (by kernel_rfl) rfl rfl rfl (by decide) hq52_ ?_
                refine A_tkN 41 (j := 39) (dj := 54) (b := true) rfl (by kernel_rfl) rfl rfl rfl (by decide) hq52_ ?_
                refine A_tkN 42 (j := 39) (dj := 54) (b := true) rfl (by kernel_rfl) rfl rfl rfl (by decide) hq52_ ?_
                refine A_tkN 43 (j := 39) (dj := 54) (b := true) rfl (by kernel_rfl) rfl rfl rfl (by decide) hq52_ ?_
                refine A_tkN 44 (j := 39) (dj := 54) (b := true) rfl (by kernel_rfl) rfl rfl rfl (by decide) hq52_ ?_
                refine A_tk 45 (v := (Value.bool true)) rfl (by kernel_rfl) (fun w hS => (x_pickT rfl rfl)) hq52_ ?_
                refine A_done (by kernel_rfl) ?_
                refine (X_then (hK31_ _ _ ?_))
                clear hK31_
                refine C_condT rfl ?_
                refine C_seq (fun K54_ hK54_ => ?_)
                refine C_reg ?_
                refine S_list (T_val (v := (Value.bool false)) (x_assign rfl) ?_)
                refine wpList_nil ?_
                refine (X_then (hK54_ _ _ ?_))
                clear hK54_
                refine C_ret (X_thenR (X_blkR (X_thenR (X_thenR (X_blkR (X_thenR ?_))))))
                refine R_any (v := (Value.bool false)) (run_results1 rfl rfl) ?_
                have H55_ : Holds w47_ (ro R :: F) := (Holds.erase (Holds.bring H48_ 0 rfl) 1)
                exact ⟨_, [], rfl, ⟨false, rfl, rfl, (fun h => by first | (cases h; done) | exact ⟨by omega, fun x hx => by obtain ⟨i, hi, e⟩ := List.getElem_of_mem hx; exact hall i x (by omega) (by rw [List.getElem?_eq_getElem hi, e])⟩)⟩, S51_, H55_⟩
              · skip
                refine A_tkY 27 (j := 26) (dj := 41) (b := false) (v := (Value.pointer (some ⟨b19_, 3, none⟩))) rfl (by kernel_rfl) rfl rfl (congrArg Value.bool c53_f) (fun w hS => by kernel_rfl) hq52_ ?_
                refine A_tkY 28 (j := 26) (dj := 41) (b := false) (v := (Value.pointer (some ⟨b19_, 3, none⟩))) rfl (by kernel_rfl) rfl rfl (congrArg Value.bool c53_f) (fun w hS => by kernel_rfl) hq52_ ?_
                refine A_tkY 29 (j := 26) (dj := 41) (b := false) (v := (Value.string x16_.kV_Key)) rfl (by kernel_rfl) rfl rfl (congrArg Value.bool c53_f) (fun w hS => x_load1 rfl Try.underlying9 rfl (hS.1 3 (Value.string x16_.kV_Key) rfl)) hq52_ ?_
                refine A_tkY 30 (j := 26) (dj := 41) (b := false) (v := (Value.bool (x16_.kV_Key.toList == (ByteArray.mk #[]).toList))) rfl (by kernel_rfl) rfl rfl (congrArg Value.bool c53_f) (fun w hS => x_str rfl rfl rfl (by decide)) hq52_ ?_
                refine A_tk 31 (v := (Value.bool (x16_.kV_Key.toList == (ByteArray.mk #[]).toList))) rfl (by kernel_rfl) (fun w hS => (x_pickF (congrArg Value.bool c53_f) rfl)) hq52_ ?_
                refine A_tk 32 (v := (Value.bool (x16_.kV_Key.toList == (ByteArray.mk #[]).toList))) rfl (by kernel_rfl) (fun w hS => x_move rfl) hq52_ ?_
                rcases Bool.eq_false_or_eq_true (x16_.kV_Key.toList == (ByteArray.mk #[]).toList) with c56_t | c56_f
                · skip
                  refine A_tkN 33 (j := 32) (dj := 47) (b := true) rfl (by kernel_rfl) rfl rfl (congrArg Value.bool c56_t) (by decide) hq52_ ?_
                  refine A_tkN 34 (j := 32) (dj := 47) (b := true) rfl (by kernel_rfl) rfl rfl (congrArg Value.bool c56_t) (by decide) hq52_ ?_
                  refine A_tkN 35 (j := 32) (dj := 47) (b := true) rfl (by kernel_rfl) rfl rfl (congrArg Value.bool c56_t) (by decide) hq52_ ?_
                  refine A_tkN 36 (j := 32) (dj := 47) (b := true) rfl (by kernel_rfl) rfl rfl (congrArg Value.bool c56_t) (by decide) hq52_ ?_
                  refine A_tkN 37 (j := 32) (dj := 47) (b := true) rfl (by kernel_rfl) rfl rfl (congrArg Value.bool c56_t) (by decide) hq52_ ?_
                  refine A_tk 38 (v := (Value.bool true)) rfl (by kernel_rfl) (fun w hS => (x_pickT (congrArg Value.bool c56_t) rfl)) hq52_ ?_
                  refine A_tk 39 (v := (Value.bool true)) rfl (by kernel_rfl) (fun w hS => x_move rfl) hq52_ ?_
                  refine A_tkN 40 (j := 39) (dj := 54) (b := true) rfl (by kernel_rfl) rfl rfl rfl (by decide) hq52_ ?_
                  refine A_tkN 41 (j := 39) (dj := 54) (b := true) rfl (by kernel_rfl) rfl rfl rfl (by decide) hq52_ ?_
                  refine A_tkN 42 (j := 39) (dj := 54) (b := true) rfl (by kernel_rfl) rfl rfl rfl (by decide) hq52_ ?_
                  refine A_tkN 43 (j := 39) (dj := 54) (b := true) rfl (by kernel_rfl) rfl rfl rfl (by decide) hq52_ ?_
                  refine A_tkN 44 (j := 39) (dj := 54) (b := true) rfl (by kernel_rfl) rfl rfl rfl (by decide) hq52_ ?_
                  refine A_tk 45 (v := (Value.bool true)) rfl (by kernel_rfl) (fun w hS => (x_pickT rfl rfl)) hq52_ ?_
                  refine A_done (by kernel_rfl) ?_
                  refine (X_then (hK31_ _ _ ?_))
                  clear hK31_
                  refine C_condT rfl ?_
                  refine C_seq (fun K57_ hK57_ => ?_)
                  refine C_reg ?_
                  refine S_list (T_val (v := (Value.bool false)) (x_assign rfl) ?_)
                  refine wpList_nil ?_
                  refine (X_then (hK57_ _ _ ?_))
                  clear hK57_
                  refine C_ret (X_thenR (X_blkR (X_thenR (X_thenR (X_blkR (X_thenR ?_))))))
                  refine R_any (v := (Value.bool false)) (run_results1 rfl rfl) ?_
                  have H58_ : Holds w47_ (ro R :: F) := (Holds.erase (Holds.bring H48_ 0 rfl) 1)
                  exact ⟨_, [], rfl, ⟨false, rfl, rfl, (fun h => by first | (cases h; done) | exact ⟨by omega, fun x hx => by obtain ⟨i, hi, e⟩ := List.getElem_of_mem hx; exact hall i x (by omega) (by rw [List.getElem?_eq_getElem hi, e])⟩)⟩, S51_, H58_⟩
                · skip
                  refine A_tkY 33 (j := 32) (dj := 47) (b := false) (v := (Value.pointer (some ⟨b19_, 3, none⟩))) rfl (by kernel_rfl) rfl rfl (congrArg Value.bool c56_f) (fun w hS => by kernel_rfl) hq52_ ?_
                  refine A_tkY 34 (j := 32) (dj := 47) (b := false) (v := (Value.pointer (some ⟨b19_, 3, none⟩))) rfl (by kernel_rfl) rfl rfl (congrArg Value.bool c56_f) (fun w hS => by kernel_rfl) hq52_ ?_
                  refine A_tkY 35 (j := 32) (dj := 47) (b := false) (v := (Value.string x16_.kV_Key)) rfl (by kernel_rfl) rfl rfl (congrArg Value.bool c56_f) (fun w hS => x_load1 rfl Try.underlying9 rfl (hS.1 3 (Value.string x16_.kV_Key) rfl)) hq52_ ?_
                  refine A_tkY 36 (j := 32) (dj := 47) (b := false) (v := (Value.int .i64 (x16_.kV_Key.size : Int))) rfl (by kernel_rfl) rfl rfl (congrArg Value.bool c56_f) (fun w hS => x_lenT rfl Try.underlying9) hq52_ ?_
                  refine A_tkY 37 (j := 32) (dj := 47) (b := false) (v := (Value.bool (decide (60 < (x16_.kV_Key.size : Int))))) rfl (by kernel_rfl) rfl rfl (congrArg Value.bool c56_f) (fun w hS => x_bin rfl rfl rfl) hq52_ ?_
                  refine A_tk 38 (v := (Value.bool (decide (60 < (x16_.kV_Key.size : Int))))) rfl (by kernel_rfl) (fun w hS => (x_pickF (congrArg Value.bool c56_f) rfl)) hq52_ ?_
                  refine A_tk 39 (v := (Value.bool (decide (60 < (x16_.kV_Key.size : Int))))) rfl (by kernel_rfl) (fun w hS => x_move rfl) hq52_ ?_
                  rcases Bool.eq_false_or_eq_true (decide (60 < (x16_.kV_Key.size : Int))) with c59_t | c59_f
                  · have c59_tp : 60 < (x16_.kV_Key.size : Int) := of_decide_eq_true c59_t
                    refine A_tkN 40 (j := 39) (dj := 54) (b := true) rfl (by kernel_rfl) rfl rfl (congrArg Value.bool c59_t) (by decide) hq52_ ?_
                    refine A_tkN 41 (j := 39) (dj := 54) (b := true) rfl (by kernel_rfl) rfl rfl (congrArg Value.bool c59_t) (by decide) hq52_ ?_
                    refine A_tkN 42 (j := 39) (dj := 54) (b := true) rfl (by kernel_rfl) rfl rfl (congrArg Value.bool c59_t) (by decide) hq52_ ?_
                    refine A_tkN 43 (j := 39) (dj := 54) (b := true) rfl (by kernel_rfl) rfl rfl (congrArg Value.bool c59_t) (by decide) hq52_ ?_
                    refine A_tkN 44 (j := 39) (dj := 54) (b := true) rfl (by kernel_rfl) rfl rfl (congrArg Value.bool c59_t) (by decide) hq52_ ?_
                    refine A_tk 45 (v := (Value.bool true)) rfl (by kernel_rfl) (fun w hS => (x_pickT (congrArg Value.bool c59_t) rfl)) hq52_ ?_
                    refine A_done (by kernel_rfl) ?_
                    refine (X_then (hK31_ _ _ ?_))
                    clear hK31_
                    refine C_condT rfl ?_
                    refine C_seq (fun K60_ hK60_ => ?_)
                    refine C_reg ?_
                    refine S_list (T_val (v := (Value.bool false)) (x_assign rfl) ?_)
                    refine wpList_nil ?_
                    refine (X_then (hK60_ _ _ ?_))
                    clear hK60_
                    refine C_ret (X_thenR (X_blkR (X_thenR (X_thenR (X_blkR (X_thenR ?_))))))
                    refine R_any (v := (Value.bool false)) (run_results1 rfl rfl) ?_
                    have H61_ : Holds w47_ (ro R :: F) := (Holds.erase (Holds.bring H48_ 0 rfl) 1)
                    exact ⟨_, [], rfl, ⟨false, rfl, rfl, (fun h => by first | (cases h; done) | exact ⟨by omega, fun x hx => by obtain ⟨i, hi, e⟩ := List.getElem_of_mem hx; exact hall i x (by omega) (by rw [List.getElem?_eq_getElem hi, e])⟩)⟩, S51_, H61_⟩
                  · have c59_fp : ¬ (60 < (x16_.kV_Key.size : Int)) := of_decide_eq_false c59_f
                    refine A_tkY 40 (j := 39) (dj := 54) (b := false) (v := (Value.pointer (some ⟨b19_, 3, none⟩))) rfl (by kernel_rfl) rfl rfl (congrArg Value.bool c59_f) (fun w hS => by kernel_rfl) hq52_ ?_
                    refine A_tkY 41 (j := 39) (dj := 54) (b := false) (v := (Value.pointer (some ⟨b19_, 4, none⟩))) rfl (by kernel_rfl) rfl rfl (congrArg Value.bool c59_f) (fun w hS => by kernel_rfl) hq52_ ?_
                    refine A_tkY 42 (j := 39) (dj := 54) (b := false) (v := (Value.string x16_.kV_Value)) rfl (by kernel_rfl) rfl rfl (congrArg Value.bool c59_f) (fun w hS => x_load1 rfl Try.underlying9 rfl (hS.1 4 (Value.string x16_.kV_Value) rfl)) hq52_ ?_
                    refine A_tkY 43 (j := 39) (dj := 54) (b := false) (v := (Value.int .i64 (x16_.kV_Value.size : Int))) rfl (by kernel_rfl) rfl rfl (congrArg Value.bool c59_f) (fun w hS => x_lenT rfl Try.underlying9) hq52_ ?_
                    refine A_tkY 44 (j := 39) (dj := 54) (b := false) (v := (Value.bool (decide (60 < (x16_.kV_Value.size : Int))))) rfl (by kernel_rfl) rfl rfl (congrArg Value.bool c59_f) (fun w hS => x_bin rfl rfl rfl) hq52_ ?_
                    refine A_tk 45 (v := (Value.bool (decide (60 < (x16_.kV_Value.size : Int))))) rfl (by kernel_rfl) (fun w hS => (x_pickF (congrArg Value.bool c59_f) rfl)) hq52_ ?_
                    refine A_done (by kernel_rfl) ?_
                    refine (X_then (hK31_ _ _ ?_))
                    clear hK31_
                    refine C_cond (b := decide (60 < (x16_.kV_Value.size : Int))) rfl (fun c62_t => ?_) (fun c62_f => ?_)
                    · have c62_tp : 60 < (x16_.kV_Value.size : Int) := of_decide_eq_true c62_t
                      refine C_seq (fun K63_ hK63_ => ?_)
                      refine C_reg ?_
                      refine S_list (T_val (v := (Value.bool false)) (x_assign rfl) ?_)
                      refine wpList_nil ?_
                      refine (X_then (hK63_ _ _ ?_))
                      clear hK63_
                      refine C_ret (X_thenR (X_blkR (X_thenR (X_thenR (X_blkR (X_thenR ?_))))))
                      refine R_any (v := (Value.bool false)) (run_results1 rfl rfl) ?_
                      have H64_ : Holds w47_ (ro R :: F) := (Holds.erase (Holds.bring H48_ 0 rfl) 1)
                      exact ⟨_, [], rfl, ⟨false, rfl, rfl, (fun h => by first | (cases h; done) | exact ⟨by omega, fun x hx => by obtain ⟨i, hi, e⟩ := List.getElem_of_mem hx; exact hall i x (by omega) (by rw [List.getElem?_eq_getElem hi, e])⟩)⟩, S51_, H64_⟩
                    · have c62_fp : ¬ (60 < (x16_.kV_Value.size : Int)) := of_decide_eq_false c62_f
                      refine C_skip (X_then ?_)
                      have H65_ : Holds w47_ (cl b19_ 42 [(Value.int .i64 x16_.rev_Main), (Value.int .i64 x16_.rev_Sub), (Value.bool x16_.gone), (Value.string x16_.kV_Key), (Value.string x16_.kV_Value), (Value.int .i64 x16_.kV_Create), (Value.int .i64 x16_.kV_Mod), (Value.int .i64 x16_.kV_Version), (Value.int .i64 x16_.kV_Lease)] :: ro R :: F) := (Holds.bring (Holds.bring H48_ 0 rfl) 1 rfl)
                      exact ⟨s2_v, _, congrArg (fun e => mkA 112 e []) (ch (ch (ch (ch (ch (ch rfl rfl) rfl) rfl) rfl) rfl) rfl), H65_, S51_, (⟨by omega, by omega, by omega, by omega⟩)⟩
            · have c40_fp : ¬ (0 < (k : Int)) := of_decide_eq_false c40_f
              refine A_tkN 14 (j := 13) (dj := 28) (b := false) rfl (by kernel_rfl) rfl rfl (congrArg Value.bool c40_f) (by decide) hq33_ ?_
              refine A_tkN 15 (j := 13) (dj := 28) (b := false) rfl (by kernel_rfl) rfl rfl (congrArg Value.bool c40_f) (by decide) hq33_ ?_
              refine A_tkN 16 (j := 13) (dj := 28) (b := false) rfl (by kernel_rfl) rfl rfl (congrArg Value.bool c40_f) (by decide) hq33_ ?_
              refine A_tkN 17 (j := 13) (dj := 28) (b := false) rfl (by kernel_rfl) rfl rfl (congrArg Value.bool c40_f) (by decide) hq33_ ?_
              refine A_tkN 18 (j := 13) (dj := 28) (b := false) rfl (by kernel_rfl) rfl rfl (congrArg Value.bool c40_f) (by decide) hq33_ ?_
              refine A_tkN 19 (j := 13) (dj := 28) (b := false) rfl (by kernel_rfl) rfl rfl (congrArg Value.bool c40_f) (by decide) hq33_ ?_
              refine A_tkN 20 (j := 13) (dj := 28) (b := false) rfl (by kernel_rfl) rfl rfl (congrArg Value.bool c40_f) (by decide) hq33_ ?_
              refine A_tkN 21 (j := 13) (dj := 28) (b := false) rfl (by kernel_rfl) rfl rfl (congrArg Value.bool c40_f) (by decide) hq33_ ?_
              refine A_tkN 22 (j := 13) (dj := 28) (b := false) rfl (by kernel_rfl) rfl rfl (congrArg Value.bool c40_f) (by decide) hq33_ ?_
              refine A_tkN 23 (j := 13) (dj := 28) (b := false) rfl (by kernel_rfl) rfl rfl (congrArg Value.bool c40_f) (by decide) hq33_ ?_
              refine A_tkY 24 (j := 10) (dj := 25) (b := false) (v := (Value.bool false)) rfl (by kernel_rfl) rfl rfl (congrArg Value.bool c37_f) (fun w hS => (x_pickF (congrArg Value.bool c40_f) rfl)) hq33_ ?_
              refine A_tk 25 (v := (Value.bool false)) rfl (by kernel_rfl) (fun w hS => (x_pickF (congrArg Value.bool c37_f) rfl)) hq33_ ?_
              refine A_tk 26 (v := (Value.bool false)) rfl (by kernel_rfl) (fun w hS => x_move rfl) hq33_ ?_
              refine A_tkY 27 (j := 26) (dj := 41) (b := false) (v := (Value.pointer (some ⟨b19_, 3, none⟩))) rfl (by kernel_rfl) rfl rfl rfl (fun w hS => by kernel_rfl) hq33_ ?_
              refine A_tkY 28 (j := 26) (dj := 41) (b := false) (v := (Value.pointer (some ⟨b19_, 3, none⟩))) rfl (by kernel_rfl) rfl rfl rfl (fun w hS => by kernel_rfl) hq33_ ?_
              refine A_tkY 29 (j := 26) (dj := 41) (b := false) (v := (Value.string x16_.kV_Key)) rfl (by kernel_rfl) rfl rfl rfl (fun w hS => x_load1 rfl Try.underlying9 rfl (hS.1 3 (Value.string x16_.kV_Key) rfl)) hq33_ ?_
              refine A_tkY 30 (j := 26) (dj := 41) (b := false) (v := (Value.bool (x16_.kV_Key.toList == (ByteArray.mk #[]).toList))) rfl (by kernel_rfl) rfl rfl rfl (fun w hS => x_str rfl rfl rfl (by decide)) hq33_ ?_
              refine A_tk 31 (v := (Value.bool (x16_.kV_Key.toList == (ByteArray.mk #[]).toList))) rfl (by kernel_rfl) (fun w hS => (x_pickF rfl rfl)) hq33_ ?_
              refine A_tk 32 (v := (Value.bool (x16_.kV_Key.toList == (ByteArray.mk #[]).toList))) rfl (by kernel_rfl) (fun w hS => x_move rfl) hq33_ ?_
              rcases Bool.eq_false_or_eq_true (x16_.kV_Key.toList == (ByteArray.mk #[]).toList) with c66_t | c66_f
              · skip
                refine A_tkN 33 (j := 32) (dj := 47) (b := true) rfl (by kernel_rfl) rfl rfl (congrArg Value.bool c66_t) (by decide) hq33_ ?_
                refine A_tkN 34 (j := 32) (dj := 47) (b := true) rfl (by kernel_rfl) rfl rfl (congrArg Value.bool c66_t) (by decide) hq33_ ?_
                refine A_tkN 35 (j := 32) (dj := 47) (b := true) rfl (by kernel_rfl) rfl rfl (congrArg Value.bool c66_t) (by decide) hq33_ ?_
                refine A_tkN 36 (j := 32) (dj := 47) (b := true) rfl (by kernel_rfl) rfl rfl (congrArg Value.bool c66_t) (by decide) hq33_ ?_
                refine A_tkN 37 (j := 32) (dj := 47) (b := true) rfl (by kernel_rfl) rfl rfl (congrArg Value.bool c66_t) (by decide) hq33_ ?_
                refine A_tk 38 (v := (Value.bool true)) rfl (by kernel_rfl) (fun w hS => (x_pickT (congrArg Value.bool c66_t) rfl)) hq33_ ?_
                refine A_tk 39 (v := (Value.bool true)) rfl (by kernel_rfl) (fun w hS => x_move rfl) hq33_ ?_
                refine A_tkN 40 (j := 39) (dj := 54) (b := true) rfl (by kernel_rfl) rfl rfl rfl (by decide) hq33_ ?_
                refine A_tkN 41 (j := 39) (dj := 54) (b := true) rfl (by kernel_rfl) rfl rfl rfl (by decide) hq33_ ?_
                refine A_tkN 42 (j := 39) (dj := 54) (b := true) rfl (by kernel_rfl) rfl rfl rfl (by decide) hq33_ ?_
                refine A_tkN 43 (j := 39) (dj := 54) (b := true) rfl (by kernel_rfl) rfl rfl rfl (by decide) hq33_ ?_
                refine A_tkN 44 (j := 39) (dj := 54) (b := true) rfl (by kernel_rfl) rfl rfl rfl (by decide) hq33_ ?_
                refine A_tk 45 (v := (Value.bool true)) rfl (by kernel_rfl) (fun w hS => (x_pickT rfl rfl)) hq33_ ?_
                refine A_done (by kernel_rfl) ?_
                refine (X_then (hK31_ _ _ ?_))
                clear hK31_
                refine C_condT rfl ?_
                refine C_seq (fun K67_ hK67_ => ?_)
                refine C_reg ?_
                refine S_list (T_val (v := (Value.bool false)) (x_assign rfl) ?_)
                refine wpList_nil ?_
                refine (X_then (hK67_ _ _ ?_))
                clear hK67_
                refine C_ret (X_thenR (X_blkR (X_thenR (X_thenR (X_blkR (X_thenR ?_))))))
                refine R_any (v := (Value.bool false)) (run_results1 rfl rfl) ?_
                have H68_ : Holds w24_.drew (ro R :: F) := (Holds.erase (Holds.bring H32_ 1 rfl) 1)
                exact ⟨_, [], rfl, ⟨false, rfl, rfl, (fun h => by first | (cases h; done) | exact ⟨by omega, fun x hx => by obtain ⟨i, hi, e⟩ := List.getElem_of_mem hx; exact hall i x (by omega) (by rw [List.getElem?_eq_getElem hi, e])⟩)⟩, (Same.trans S27_ (Same.drew _)), H68_⟩
              · skip
                refine A_tkY 33 (j := 32) (dj := 47) (b := false) (v := (Value.pointer (some ⟨b19_, 3, none⟩))) rfl (by kernel_rfl) rfl rfl (congrArg Value.bool c66_f) (fun w hS => by kernel_rfl) hq33_ ?_
                refine A_tkY 34 (j := 32) (dj := 47) (b := false) (v := (Value.pointer (some ⟨b19_, 3, none⟩))) rfl (by kernel_rfl) rfl rfl (congrArg Value.bool c66_f) (fun w hS => by kernel_rfl) hq33_ ?_
                refine A_tkY 35 (j := 32) (dj := 47) (b := false) (v := (Value.string x16_.kV_Key)) rfl (by kernel_rfl) rfl rfl (congrArg Value.bool c66_f) (fun w hS => x_load1 rfl Try.underlying9 rfl (hS.1 3 (Value.string x16_.kV_Key) rfl)) hq33_ ?_
                refine A_tkY 36 (j := 32) (dj := 47) (b := false) (v := (Value.int .i64 (x16_.kV_Key.size : Int))) rfl (by kernel_rfl) rfl rfl (congrArg Value.bool c66_f) (fun w hS => x_lenT rfl Try.underlying9) hq33_ ?_
                refine A_tkY 37 (j := 32) (dj := 47) (b := false) (v := (Value.bool (decide (60 < (x16_.kV_Key.size : Int))))) rfl (by kernel_rfl) rfl rfl (congrArg Value.bool c66_f) (fun w hS => x_bin rfl rfl rfl) hq33_ ?_
                refine A_tk 38 (v := (Value.bool (decide (60 < (x16_.kV_Key.size : Int))))) rfl (by kernel_rfl) (fun w hS => (x_pickF (congrArg Value.bool c66_f) rfl)) hq33_ ?_
                refine A_tk 39 (v := (Value.bool (decide (60 < (x16_.kV_Key.size : Int))))) rfl (by kernel_rfl) (fun w hS => x_move rfl) hq33_ ?_
                rcases Bool.eq_false_or_eq_true (decide (60 < (x16_.kV_Key.size : Int))) with c69_t | c69_f
                · have c69_tp : 60 < (x16_.kV_Key.size : Int) := of_decide_eq_true c69_t
                  refine A_tkN 40 (j := 39) (dj := 54) (b := true) rfl (by kernel_rfl) rfl rfl (congrArg Value.bool c69_t) (by decide) hq33_ ?_
                  refine A_tkN 41 (j := 39) (dj := 54) (b := true) rfl (by kernel_rfl) rfl rfl (congrArg Value.bool c69_t) (by decide) hq33_ ?_
                  refine A_tkN 42 (j := 39) (dj := 54) (b := true) rfl (by kernel_rfl) rfl rfl (congrArg Value.bool c69_t) (by decide) hq33_ ?_
                  refine A_tkN 43 (j := 39) (dj := 54) (b := true) rfl (by kernel_rfl) rfl rfl (congrArg Value.bool c69_t) (by decide) hq33_ ?_
                  refine A_tkN 44 (j := 39) (dj := 54) (b := true) rfl (by kernel_rfl) rfl rfl (congrArg Value.bool c69_t) (by decide) hq33_ ?_
                  refine A_tk 45 (v := (Value.bool true)) rfl (by kernel_rfl) (fun w hS => (x_pickT (congrArg Value.bool c69_t) rfl)) hq33_ ?_
                  refine A_done (by kernel_rfl) ?_
                  refine (X_then (hK31_ _ _ ?_))
                  clear hK31_
                  refine C_condT rfl ?_
                  refine C_seq (fun K70_ hK70_ => ?_)
                  refine C_reg ?_
                  refine S_list (T_val (v := (Value.bool false)) (x_assign rfl) ?_)
                  refine wpList_nil ?_
                  refine (X_then (hK70_ _ _ ?_))
                  clear hK70_
                  refine C_ret (X_thenR (X_blkR (X_thenR (X_thenR (X_blkR (X_thenR ?_))))))
                  refine R_any (v := (Value.bool false)) (run_results1 rfl rfl) ?_
                  have H71_ : Holds w24_.drew (ro R :: F) := (Holds.erase (Holds.bring H32_ 1 rfl) 1)
                  exact ⟨_, [], rfl, ⟨false, rfl, rfl, (fun h => by first | (cases h; done) | exact ⟨by omega, fun x hx => by obtain ⟨i, hi, e⟩ := List.getElem_of_mem hx; exact hall i x (by omega) (by rw [List.getElem?_eq_getElem hi, e])⟩)⟩, (Same.trans S27_ (Same.drew _)), H71_⟩
                · have c69_fp : ¬ (60 < (x16_.kV_Key.size : Int)) := of_decide_eq_false c69_f
                  refine A_tkY 40 (j := 39) (dj := 54) (b := false) (v := (Value.pointer (some ⟨b19_, 3, none⟩))) rfl (by kernel_rfl) rfl rfl (congrArg Value.bool c69_f) (fun w hS => by kernel_rfl) hq33_ ?_
                  refine A_tkY 41 (j := 39) (dj := 54) (b := false) (v := (Value.pointer (some ⟨b19_, 4, none⟩))) rfl (by kernel_rfl) rfl rfl (congrArg Value.bool c69_f) (fun w hS => by kernel_rfl) hq33_ ?_
                  refine A_tkY 42 (j := 39) (dj := 54) (b := false) (v := (Value.string x16_.kV_Value)) rfl (by kernel_rfl) rfl rfl (congrArg Value.bool c69_f) (fun w hS => x_load1 rfl Try.underlying9 rfl (hS.1 4 (Value.string x16_.kV_Value) rfl)) hq33_ ?_
                  refine A_tkY 43 (j := 39) (dj := 54) (b := false) (v := (Value.int .i64 (x16_.kV_Value.size : Int))) rfl (by kernel_rfl) rfl rfl (congrArg Value.bool c69_f) (fun w hS => x_lenT rfl Try.underlying9) hq33_ ?_
                  refine A_tkY 44 (j := 39) (dj := 54) (b := false) (v := (Value.bool (decide (60 < (x16_.kV_Value.size : Int))))) rfl (by kernel_rfl) rfl rfl (congrArg Value.bool c69_f) (fun w hS => x_bin rfl rfl rfl) hq33_ ?_
                  refine A_tk 45 (v := (Value.bool (decide (60 < (x16_.kV_Value.size : Int))))) rfl (by kernel_rfl) (fun w hS => (x_pickF (congrArg Value.bool c69_f) rfl)) hq33_ ?_
                  refine A_done (by kernel_rfl) ?_
                  refine (X_then (hK31_ _ _ ?_))
                  clear hK31_
                  refine C_cond (b := decide (60 < (x16_.kV_Value.size : Int))) rfl (fun c72_t => ?_) (fun c72_f => ?_)
                  · have c72_tp : 60 < (x16_.kV_Value.size : Int) := of_decide_eq_true c72_t
                    refine C_seq (fun K73_ hK73_ => ?_)
                    refine C_reg ?_
                    refine S_list (T_val (v := (Value.bool false)) (x_assign rfl) ?_)
                    refine wpList_nil ?_
                    refine (X_then (hK73_ _ _ ?_))
                    clear hK73_
                    refine C_ret (X_thenR (X_blkR (X_thenR (X_thenR (X_blkR (X_thenR ?_))))))
                    refine R_any (v := (Value.bool false)) (run_results1 rfl rfl) ?_
                    have H74_ : Holds w24_.drew (ro R :: F) := (Holds.erase (Holds.bring H32_ 1 rfl) 1)
                    exact ⟨_, [], rfl, ⟨false, rfl, rfl, (fun h => by first | (cases h; done) | exact ⟨by omega, fun x hx => by obtain ⟨i, hi, e⟩ := List.getElem_of_mem hx; exact hall i x (by omega) (by rw [List.getElem?_eq_getElem hi, e])⟩)⟩, (Same.trans S27_ (Same.drew _)), H74_⟩
                  · have c72_fp : ¬ (60 < (x16_.kV_Value.size : Int)) := of_decide_eq_false c72_f
                    refine C_skip (X_then ?_)
                    exact ⟨s2_v, _, congrArg (fun e => mkA 112 e []) (ch (ch (ch (ch (ch (ch rfl rfl) rfl) rfl) rfl) rfl) rfl), H32_, (Same.trans S27_ (Same.drew _)), (⟨by omega, by omega, by omega, by omega⟩)⟩
      · rintro _ w28_ ⟨s2_v, h, rfl, H29_, S30_, hgx⟩
        refine C_cut (fun a__ w1__ => ∃ s2_v : Bool, ∃ h : Env, a__ = mkA 112 (upd (upd (upd (upd (upd (upd h 0 v) 2 (Value.bool s2_v)) 4 (Value.pointer (some ⟨b19_, 0, none⟩))) 8 v) 9 (Value.int .i64 (L.length : Int))) 10 (Value.int .i64 (k : Int))) [] ∧ Holds w1__ (cl b19_ 42 [(Value.int .i64 x16_.rev_Main), (Value.int .i64 x16_.rev_Sub), (Value.bool x16_.gone), (Value.string x16_.kV_Key), (Value.string x16_.kV_Value), (Value.int .i64 x16_.kV_Create), (Value.int .i64 x16_.kV_Mod), (Value.int .i64 x16_.kV_Version), (Value.int .i64 x16_.kV_Lease)] :: ro R :: F) ∧ Same w w1__) ?_ ?_
        · refine C_seq (fun K78_ hK78_ => ?_)
          refine C_reg ?_
          refine S_list (T_val (v := (Value.pointer (some ⟨b19_, 2, none⟩))) (by kernel_rfl) ?_)
          refine S_list (T_val (v := (Value.bool x16_.gone)) (x_load1 rfl Try.underlying4 rfl ((Holds.rd H29_ 0 rfl) 2 (Value.bool x16_.gone) rfl)) ?_)
          refine S_list (T_val (v := (Value.bool x16_.gone)) (x_move rfl) ?_)
          rcases Bool.eq_false_or_eq_true (x16_.gone) with c79_t | c79_f
          · skip
            refine S_yes (j := 2) (dj := 63) (b := true) rfl rfl (congrArg Value.bool c79_t) (T_val (v := (Value.pointer (some ⟨b19_, 3, none⟩))) (by kernel_rfl) ?_)
            refine S_yes (j := 2) (dj := 63) (b := true) rfl rfl (congrArg Value.bool c79_t) (T_val (v := (Value.agg #[(Value.string x16_.kV_Key), (Value.string x16_.kV_Value), (Value.int .i64 x16_.kV_Create), (Value.int .i64 x16_.kV_Mod), (Value.int .i64 x16_.kV_Version), (Value.int .i64 x16_.kV_Lease)])) (x_loadN (vs := [(Value.string x16_.kV_Key), (Value.string x16_.kV_Value), (Value.int .i64 x16_.kV_Create), (Value.int .i64 x16_.kV_Mod), (Value.int .i64 x16_.kV_Version), (Value.int .i64 x16_.kV_Lease)]) rfl Try.underlying40 rfl z40 rfl (Rd.cells (Holds.rd H29_ 0 rfl) 3 rfl)) ?_)
            refine S_yes (j := 2) (dj := 63) (b := true) rfl rfl (congrArg Value.bool c79_t) (T_val (v := (Value.pointer (some ⟨b19_, 3, none⟩))) (by kernel_rfl) ?_)
            refine S_yes (j := 2) (dj := 63) (b := true) rfl rfl (congrArg Value.bool c79_t) (T_val (v := (Value.pointer (some ⟨b19_, 3, none⟩))) (by kernel_rfl) ?_)
            refine S_yes (j := 2) (dj := 63) (b := true) rfl rfl (congrArg Value.bool c79_t) (T_val (v := (Value.string x16_.kV_Key)) (x_load1 rfl Try.underlying9 rfl ((Holds.rd H29_ 0 rfl) 3 (Value.string x16_.kV_Key) rfl)) ?_)
            refine S_yes (j := 2) (dj := 63) (b := true) rfl rfl (congrArg Value.bool c79_t) (T_val (v := (Value.agg #[(Value.string x16_.kV_Key), (Value.string ByteArray.empty), (Value.int .i64 0), (Value.int .i64 0), (Value.int .i64 0), (Value.int .i64 0)])) (by kernel_rfl) ?_)
            refine S_yes (j := 2) (dj := 63) (b := true) rfl rfl (congrArg Value.bool c79_t) (T_val (v := (Value.bool (!((x16_.kV_Key == x16_.kV_Key) && ((x16_.kV_Value == ByteArray.empty) && ((decide (x16_.kV_Create = 0)) && ((decide (x16_.kV_Mod = 0)) && ((decide (x16_.kV_Version = 0)) && ((decide (x16_.kV_Lease = 0)) && (true)))))))))) (x_neqS rfl rfl (by kernel_rfl) (eq_struct Try.underlying40 (by kernel_rfl) (eqf_cons rfl (run_part1 Try.underlying9 rfl rfl) (run_part1 Try.underlying9 rfl rfl) (eq_str Try.underlying9) (eqf_cons rfl (run_part1 Try.underlying9 rfl rfl) (run_part1 Try.underlying9 rfl rfl) (eq_str Try.underlying9) (eqf_cons rfl (run_part1 Try.underlying2 rfl rfl) (run_part1 Try.underlying2 rfl rfl) (eq_int Try.underlying2) (eqf_cons rfl (run_part1 Try.underlying2 rfl rfl) (run_part1 Try.underlying2 rfl rfl) (eq_int Try.underlying2) (eqf_cons rfl (run_part1 Try.underlying2 rfl rfl) (run_part1 Try.underlying2 rfl rfl) (eq_int Try.underlying2) (eqf_cons rfl (run_part1 Try.underlying2 rfl rfl) (run_part1 Try.underlying2 rfl rfl) (eq_int Try.underlying2) (eqf_nil))))))))) ?_)
            refine S_list (T_pickT (v := (Value.bool (!((x16_.kV_Key == x16_.kV_Key) && ((x16_.kV_Value == ByteArray.empty) && ((decide (x16_.kV_Create = 0)) && ((decide (x16_.kV_Mod = 0)) && ((decide (x16_.kV_Version = 0)) && ((decide (x16_.kV_Lease = 0)) && (true)))))))))) (congrArg Value.bool c79_t) rfl ?_)
            refine wpList_nil ?_
            refine (X_then (hK78_ _ _ ?_))
            clear hK78_
            refine C_cond (b := !((x16_.kV_Key == x16_.kV_Key) && ((x16_.kV_Value == ByteArray.empty) && ((decide (x16_.kV_Create = 0)) && ((decide (x16_.kV_Mod = 0)) && ((decide (x16_.kV_Version = 0)) && ((decide (x16_.kV_Lease = 0)) && (true)))))))) rfl (fun c80_t => ?_) (fun c80_f => ?_)
            · skip
              refine C_seq (fun K81_ hK81_ => ?_)
              refine C_reg ?_
              refine S_list (T_val (v := (Value.bool false)) (x_assign rfl) ?_)
              refine wpList_nil ?_
              refine (X_then (hK81_ _ _ ?_))
              clear hK81_
              refine C_ret (X_thenR (X_blkR (X_thenR (X_thenR (X_blkR (X_thenR ?_))))))
              refine R_any (v := (Value.bool false)) (run_results1 rfl rfl) ?_
              have H82_ : Holds w28_ (ro R :: F) := (Holds.erase (Holds.bring H29_ 1 rfl) 1)
              exact ⟨_, [], rfl, ⟨false, rfl, rfl, (fun h => by first | (cases h; done) | exact ⟨by omega, fun x hx => by obtain ⟨i, hi, e⟩ := List.getElem_of_mem hx; exact hall i x (by omega) (by rw [List.getElem?_eq_getElem hi, e])⟩)⟩, S30_, H82_⟩
            · skip
              refine C_skip (X_then ?_)
              exact ⟨s2_v, _, congrArg (fun e => mkA 112 e []) (ch (ch (ch (ch (ch (ch rfl rfl) rfl) rfl) rfl) rfl) rfl), H29_, S30_⟩
          · skip
            refine S_no (j := 2) (dj := 63) (b := false) rfl rfl (congrArg Value.bool c79_f) (by decide) ?_
            refine S_no (j := 2) (dj := 63) (b := false) rfl rfl (congrArg Value.bool c79_f) (by decide) ?_
            refine S_no (j := 2) (dj := 63) (b := false) rfl rfl (congrArg Value.bool c79_f) (by decide) ?_
            refine S_no (j := 2) (dj := 63) (b := false) rfl rfl (congrArg Value.bool c79_f) (by decide) ?_
            refine S_no (j := 2) (dj := 63) (b := false) rfl rfl (congrArg Value.bool c79_f) (by decide) ?_
            refine S_no (j := 2) (dj := 63) (b := false) rfl rfl (congrArg Value.bool c79_f) (by decide) ?_
            refine S_no (j := 2) (dj := 63) (b := false) rfl rfl (congrArg Value.bool c79_f) (by decide) ?_
            refine S_list (T_pickF (v := (Value.bool false)) (congrArg Value.bool c79_f) rfl ?_)
            refine wpList_nil ?_
            refine (X_then (hK78_ _ _ ?_))
            clear hK78_
            refine C_condF rfl ?_
            refine C_skip (X_then ?_)
            exact ⟨s2_v, _, congrArg (fun e => mkA 112 e []) (ch (ch (ch (ch (ch (ch rfl rfl) rfl) rfl) rfl) rfl) rfl), H29_, S30_⟩
        · rintro _ w75_ ⟨s2_v, h, rfl, H76_, S77_⟩
          refine C_seq (fun K83_ hK83_ => ?_)
          refine C_reg ?_
          refine S_list (T_val (v := (Value.pointer (some ⟨b19_, 2, none⟩))) (by kernel_rfl) ?_)
          refine S_list (T_val (v := (Value.bool x16_.gone)) (x_load1 rfl Try.underlying4 rfl ((Holds.rd H76_ 0 rfl) 2 (Value.bool x16_.gone) rfl)) ?_)
          refine S_list (T_val (v := (Value.bool (!x16_.gone))) (x_not rfl) ?_)
          refine S_list (T_val (v := (Value.bool (!x16_.gone))) (x_move rfl) ?_)
          rcases Bool.eq_false_or_eq_true (!x16_.gone) with c84_t | c84_f
          · skip
            refine S_yes (j := 3) (dj := 75) (b := true) rfl rfl (congrArg Value.bool c84_t) (T_val (v := (Value.pointer (some ⟨b19_, 3, none⟩))) (by kernel_rfl) ?_)
            refine S_yes (j := 3) (dj := 75) (b := true) rfl rfl (congrArg Value.bool c84_t) (T_val (v := (Value.pointer (some ⟨b19_, 6, none⟩))) (by kernel_rfl) ?_)
            refine S_yes (j := 3) (dj := 75) (b := true) rfl rfl (congrArg Value.bool c84_t) (T_val (v := (Value.int .i64 x16_.kV_Mod)) (x_load1 rfl Try.underlying2 rfl ((Holds.rd H76_ 0 rfl) 6 (Value.int .i64 x16_.kV_Mod) rfl)) ?_)
            refine S_yes (j := 3) (dj := 75) (b := true) rfl rfl (congrArg Value.bool c84_t) (T_val (v := (Value.pointer (some ⟨b19_, 0, none⟩))) (by kernel_rfl) ?_)
            refine S_yes (j := 3) (dj := 75) (b := true) rfl rfl (congrArg Value.bool c84_t) (T_val (v := (Value.pointer (some ⟨b19_, 0, none⟩))) (by kernel_rfl) ?_)
            refine S_yes (j := 3) (dj := 75) (b := true) rfl rfl (congrArg Value.bool c84_t) (T_val (v := (Value.int .i64 x16_.rev_Main)) (x_load1 rfl Try.underlying2 rfl ((Holds.rd H76_ 0 rfl) 0 (Value.int .i64 x16_.rev_Main) rfl)) ?_)
            refine S_yes (j := 3) (dj := 75) (b := true) rfl rfl (congrArg Value.bool c84_t) (T_val (v := (Value.bool (decide (x16_.kV_Mod ≠ x16_.rev_Main)))) (x_bin rfl rfl rfl) ?_)
            refine S_yes (j := 3) (dj := 75) (b := true) rfl rfl (congrArg Value.bool c84_t) (T_val (v := (Value.bool (decide (x16_.kV_Mod ≠ x16_.rev_Main)))) (x_move rfl) ?_)
            rcases Bool.eq_false_or_eq_true (decide (x16_.kV_Mod ≠ x16_.rev_Main)) with c85_t | c85_f
            · have c85_tp : x16_.kV_Mod ≠ x16_.rev_Main := of_decide_eq_true c85_t
              refine S_no (j := 11) (dj := 83) (b := true) rfl rfl (congrArg Value.bool c85_t) (by decide) ?_
              refine S_no (j := 11) (dj := 83) (b := true) rfl rfl (congrArg Value.bool c85_t) (by decide) ?_
              refine S_no (j := 11) (dj := 83) (b := true) rfl rfl (congrArg Value.bool c85_t) (by decide) ?_
              refine S_no (j := 11) (dj := 83) (b := true) rfl rfl (congrArg Value.bool c85_t) (by decide) ?_
              refine S_yes (j := 3) (dj := 75) (b := true) rfl rfl (congrArg Value.bool c84_t) (T_pickT (v := (Value.bool true)) (congrArg Value.bool c85_t) rfl ?_)
              refine S_yes (j := 3) (dj := 75) (b := true) rfl rfl (congrArg Value.bool c84_t) (T_val (v := (Value.bool true)) (x_move rfl) ?_)
              refine S_no (j := 17) (dj := 89) (b := true) rfl rfl rfl (by decide) ?_
              refine S_no (j := 17) (dj := 89) (b := true) rfl rfl rfl (by decide) ?_
              refine S_no (j := 17) (dj := 89) (b := true) rfl rfl rfl (by decide) ?_
              refine S_no (j := 17) (dj := 89) (b := true) rfl rfl rfl (by decide) ?_
              refine S_yes (j := 3) (dj := 75) (b := true) rfl rfl (congrArg Value.bool c84_t) (T_pickT (v := (Value.bool true)) rfl rfl ?_)
              refine S_yes (j := 3) (dj := 75) (b := true) rfl rfl (congrArg Value.bool c84_t) (T_val (v := (Value.bool true)) (x_move rfl) ?_)
              refine S_no (j := 23) (dj := 95) (b := true) rfl rfl rfl (by decide) ?_
              refine S_no (j := 23) (dj := 95) (b := true) rfl rfl rfl (by decide) ?_
              refine S_no (j := 23) (dj := 95) (b := true) rfl rfl rfl (by decide) ?_
              refine S_no (j := 23) (dj := 95) (b := true) rfl rfl rfl (by decide) ?_
              refine S_yes (j := 3) (dj := 75) (b := true) rfl rfl (congrArg Value.bool c84_t) (T_pickT (v := (Value.bool true)) rfl rfl ?_)
              refine S_yes (j := 3) (dj := 75) (b := true) rfl rfl (congrArg Value.bool c84_t) (T_val (v := (Value.bool true)) (x_move rfl) ?_)
              refine S_no (j := 29) (dj := 101) (b := true) rfl rfl rfl (by decide) ?_
              refine S_no (j := 29) (dj := 101) (b := true) rfl rfl rfl (by decide) ?_
              refine S_no (j := 29) (dj := 101) (b := true) rfl rfl rfl (by decide) ?_
              refine S_no (j := 29) (dj := 101) (b := true) rfl rfl rfl (by decide) ?_
              refine S_no (j := 29) (dj := 101) (b := true) rfl rfl rfl (by decide) ?_
              refine S_no (j := 29) (dj := 101) (b := true) rfl rfl rfl (by decide) ?_
              refine S_no (j := 29) (dj := 101) (b := true) rfl rfl rfl (by decide) ?_
              refine S_yes (j := 3) (dj := 75) (b := true) rfl rfl (congrArg Value.bool c84_t) (T_pickT (v := (Value.bool true)) rfl rfl ?_)
              refine S_list (T_pickT (v := (Value.bool true)) (congrArg Value.bool c84_t) rfl ?_)
              refine wpList_nil ?_
              refine (X_then (hK83_ _ _ ?_))
              clear hK83_
              refine C_condT rfl ?_
              refine C_seq (fun K86_ hK86_ => ?_)
              refine C_reg ?_
              refine S_list (T_val (v := (Value.bool false)) (x_assign rfl) ?_)
              refine wpList_nil ?_
              refine (X_then (hK86_ _ _ ?_))
              clear hK86_
              refine C_ret (X_blkR (X_thenR (X_thenR (X_blkR (X_thenR ?_)))))
              refine R_any (v := (Value.bool false)) (run_results1 rfl rfl) ?_
              have H87_ : Holds w75_ (ro R :: F) := (Holds.erase (Holds.bring H76_ 1 rfl) 1)
              exact ⟨_, [], rfl, ⟨false, rfl, rfl, (fun h => by first | (cases h; done) | exact ⟨by omega, fun x hx => by obtain ⟨i, hi, e⟩ := List.getElem_of_mem hx; exact hall i x (by omega) (by rw [List.getElem?_eq_getElem hi, e])⟩)⟩, S77_, H87_⟩
            · have c85_fp : ¬ (x16_.kV_Mod ≠ x16_.rev_Main) := of_decide_eq_false c85_f
              refine S_yes (j := 11) (dj := 83) (b := false) rfl rfl (congrArg Value.bool c85_f) (T_val (v := (Value.pointer (some ⟨b19_, 3, none⟩))) (by kernel_rfl) ?_)
              refine S_yes (j := 11) (dj := 83) (b := false) rfl rfl (congrArg Value.bool c85_f) (T_val (v := (Value.pointer (some ⟨b19_, 7, none⟩))) (by kernel_rfl) ?_)
              refine S_yes (j := 11) (dj := 83) (b := false) rfl rfl (congrArg Value.bool c85_f) (T_val (v := (Value.int .i64 x16_.kV_Version)) (x_load1 rfl Try.underlying2 rfl ((Holds.rd H76_ 0 rfl) 7 (Value.int .i64 x16_.kV_Version) rfl)) ?_)
              refine S_yes (j := 11) (dj := 83) (b := false) rfl rfl (congrArg Value.bool c85_f) (T_val (v := (Value.bool (decide (x16_.kV_Version < 1)))) (x_bin rfl rfl rfl) ?_)
              refine S_yes (j := 3) (dj := 75) (b := true) rfl rfl (congrArg Value.bool c84_t) (T_pickF (v := (Value.bool (decide (x16_.kV_Version < 1)))) (congrArg Value.bool c85_f) rfl ?_)
              refine S_yes (j := 3) (dj := 75) (b := true) rfl rfl (congrArg Value.bool c84_t) (T_val (v := (Value.bool (decide (x16_.kV_Version < 1)))) (x_move rfl) ?_)
              rcases Bool.eq_false_or_eq_true (decide (x16_.kV_Version < 1)) with c88_t | c88_f
              · have c88_tp : x16_.kV_Version < 1 := of_decide_eq_true c88_t
                refine S_no (j := 17) (dj := 89) (b := true) rfl rfl (congrArg Value.bool c88_t) (by decide) ?_
                refine S_no (j := 17) (dj := 89) (b := true) rfl rfl (congrArg Value.bool c88_t) (by decide) ?_
                refine S_no (j := 17) (dj := 89) (b := true) rfl rfl (congrArg Value.bool c88_t) (by decide) ?_
                refine S_no (j := 17) (dj := 89) (b := true) rfl rfl (congrArg Value.bool c88_t) (by decide) ?_
                refine S_yes (j := 3) (dj := 75) (b := true) rfl rfl (congrArg Value.bool c84_t) (T_pickT (v := (Value.bool true)) (congrArg Value.bool c88_t) rfl ?_)
                refine S_yes (j := 3) (dj := 75) (b := true) rfl rfl (congrArg Value.bool c84_t) (T_val (v := (Value.bool true)) (x_move rfl) ?_)
                refine S_no (j := 23) (dj := 95) (b := true) rfl rfl rfl (by decide) ?_
                refine S_no (j := 23) (dj := 95) (b := true) rfl rfl rfl (by decide) ?_
                refine S_no (j := 23) (dj := 95) (b := true) rfl rfl rfl (by decide) ?_
                refine S_no (j := 23) (dj := 95) (b := true) rfl rfl rfl (by decide) ?_
                refine S_yes (j := 3) (dj := 75) (b := true) rfl rfl (congrArg Value.bool c84_t) (T_pickT (v := (Value.bool true)) rfl rfl ?_)
                refine S_yes (j := 3) (dj := 75) (b := true) rfl rfl (congrArg Value.bool c84_t) (T_val (v := (Value.bool true)) (x_move rfl) ?_)
                refine S_no (j := 29) (dj := 101) (b := true) rfl rfl rfl (by decide) ?_
                refine S_no (j := 29) (dj := 101) (b := true) rfl rfl rfl (by decide) ?_
                refine S_no (j := 29) (dj := 101) (b := true) rfl rfl rfl (by decide) ?_
                refine S_no (j := 29) (dj := 101) (b := true) rfl rfl rfl (by decide) ?_
                refine S_no (j := 29) (dj := 101) (b := true) rfl rfl rfl (by decide) ?_
                refine S_no (j := 29) (dj := 101) (b := true) rfl rfl rfl (by decide) ?_
                refine S_no (j := 29) (dj := 101) (b := true) rfl rfl rfl (by decide) ?_
                refine S_yes (j := 3) (dj := 75) (b := true) rfl rfl (congrArg Value.bool c84_t) (T_pickT (v := (Value.bool true)) rfl rfl ?_)
                refine S_list (T_pickT (v := (Value.bool true)) (congrArg Value.bool c84_t) rfl ?_)
                refine wpList_nil ?_
                refine (X_then (hK83_ _ _ ?_))
                clear hK83_
                refine C_condT rfl ?_
                refine C_seq (fun K89_ hK89_ => ?_)
                refine C_reg ?_
                refine S_list (T_val (v := (Value.bool false)) (x_assign rfl) ?_)
                refine wpList_nil ?_
                refine (X_then (hK89_ _ _ ?_))
                clear hK89_
                refine C_ret (X_blkR (X_thenR (X_thenR (X_blkR (X_thenR ?_)))))
                refine R_any (v := (Value.bool false)) (run_results1 rfl rfl) ?_
                have H90_ : Holds w75_ (ro R :: F) := (Holds.erase (Holds.bring H76_ 1 rfl) 1)
                exact ⟨_, [], rfl, ⟨false, rfl, rfl, (fun h => by first | (cases h; done) | exact ⟨by omega, fun x hx => by obtain ⟨i, hi, e⟩ := List.getElem_of_mem hx; exact hall i x (by omega) (by rw [List.getElem?_eq_getElem hi, e])⟩)⟩, S77_, H90_⟩
              · have c88_fp : ¬ (x16_.kV_Version < 1) := of_decide_eq_false c88_f
                refine S_yes (j := 17) (dj := 89) (b := false) rfl rfl (congrArg Value.bool c88_f) (T_val (v := (Value.pointer (some ⟨b19_, 3, none⟩))) (by kernel_rfl) ?_)
                refine S_yes (j := 17) (dj := 89) (b := false) rfl rfl (congrArg Value.bool c88_f) (T_val (v := (Value.pointer (some ⟨b19_, 7, none⟩))) (by kernel_rfl) ?_)
                refine S_yes (j := 17) (dj := 89) (b := false) rfl rfl (congrArg Value.bool c88_f) (T_val (v := (Value.int .i64 x16_.kV_Version)) (x_load1 rfl Try.underlying2 rfl ((Holds.rd H76_ 0 rfl) 7 (Value.int .i64 x16_.kV_Version) rfl)) ?_)
                refine S_yes (j := 17) (dj := 89) (b := false) rfl rfl (congrArg Value.bool c88_f) (T_val (v := (Value.bool (decide (1152921504606846976 < x16_.kV_Version)))) (x_bin rfl rfl rfl) ?_)
                refine S_yes (j := 3) (dj := 75) (b := true) rfl rfl (congrArg Value.bool c84_t) (T_pickF (v := (Value.bool (decide (1152921504606846976 < x16_.kV_Version)))) (congrArg Value.bool c88_f) rfl ?_)
                refine S_yes (j := 3) (dj := 75) (b := true) rfl rfl (congrArg Value.bool c84_t) (T_val (v := (Value.bool (decide (1152921504606846976 < x16_.kV_Version)))) (x_move rfl) ?_)
                rcases Bool.eq_false_or_eq_true (decide (1152921504606846976 < x16_.kV_Version)) with c91_t | c91_f
                · have c91_tp : 1152921504606846976 < x16_.kV_Version := of_decide_eq_true c91_t
                  refine S_no (j := 23) (dj := 95) (b := true) rfl rfl (congrArg Value.bool c91_t) (by decide) ?_
                  refine S_no (j := 23) (dj := 95) (b := true) rfl rfl (congrArg Value.bool c91_t) (by decide) ?_
                  refine S_no (j := 23) (dj := 95) (b := true) rfl rfl (congrArg Value.bool c91_t) (by decide) ?_
                  refine S_no (j := 23) (dj := 95) (b := true) rfl rfl (congrArg Value.bool c91_t) (by decide) ?_
                  refine S_yes (j := 3) (dj := 75) (b := true) rfl rfl (congrArg Value.bool c84_t) (T_pickT (v := (Value.bool true)) (congrArg Value.bool c91_t) rfl ?_)
                  refine S_yes (j := 3) (dj := 75) (b := true) rfl rfl (congrArg Value.bool c84_t) (T_val (v := (Value.bool true)) (x_move rfl) ?_)
                  refine S_no (j := 29) (dj := 101) (b := true) rfl rfl rfl (by decide) ?_
                  refine S_no (j := 29) (dj := 101) (b := true) rfl rfl rfl (by decide) ?_
                  refine S_no (j := 29) (dj := 101) (b := true) rfl rfl rfl (by decide) ?_
                  refine S_no (j := 29) (dj := 101) (b := true) rfl rfl rfl (by decide) ?_
                  refine S_no (j := 29) (dj := 101) (b := true) rfl rfl rfl (by decide) ?_
                  refine S_no (j := 29) (dj := 101) (b := true) rfl rfl rfl (by decide) ?_
                  refine S_no (j := 29) (dj := 101) (b := true) rfl rfl rfl (by decide) ?_
                  refine S_yes (j := 3) (dj := 75) (b := true) rfl rfl (congrArg Value.bool c84_t) (T_pickT (v := (Value.bool true)) rfl rfl ?_)
                  refine S_list (T_pickT (v := (Value.bool true)) (congrArg Value.bool c84_t) rfl ?_)
                  refine wpList_nil ?_
                  refine (X_then (hK83_ _ _ ?_))
                  clear hK83_
                  refine C_condT rfl ?_
                  refine C_seq (fun K92_ hK92_ => ?_)
                  refine C_reg ?_
                  refine S_list (T_val (v := (Value.bool false)) (x_assign rfl) ?_)
                  refine wpList_nil ?_
                  refine (X_then (hK92_ _ _ ?_))
                  clear hK92_
                  refine C_ret (X_blkR (X_thenR (X_thenR (X_blkR (X_thenR ?_)))))
                  refine R_any (v := (Value.bool false)) (run_results1 rfl rfl) ?_
                  have H93_ : Holds w75_ (ro R :: F) := (Holds.erase (Holds.bring H76_ 1 rfl) 1)
                  exact ⟨_, [], rfl, ⟨false, rfl, rfl, (fun h => by first | (cases h; done) | exact ⟨by omega, fun x hx => by obtain ⟨i, hi, e⟩ := List.getElem_of_mem hx; exact hall i x (by omega) (by rw [List.getElem?_eq_getElem hi, e])⟩)⟩, S77_, H93_⟩
                · have c91_fp : ¬ (1152921504606846976 < x16_.kV_Version) := of_decide_eq_false c91_f
                  refine S_yes (j := 23) (dj := 95) (b := false) rfl rfl (congrArg Value.bool c91_f) (T_val (v := (Value.pointer (some ⟨b19_, 3, none⟩))) (by kernel_rfl) ?_)
                  refine S_yes (j := 23) (dj := 95) (b := false) rfl rfl (congrArg Value.bool c91_f) (T_val (v := (Value.pointer (some ⟨b19_, 5, none⟩))) (by kernel_rfl) ?_)
                  refine S_yes (j := 23) (dj := 95) (b := false) rfl rfl (congrArg Value.bool c91_f) (T_val (v := (Value.int .i64 x16_.kV_Create)) (x_load1 rfl Try.underlying2 rfl ((Holds.rd H76_ 0 rfl) 5 (Value.int .i64 x16_.kV_Create) rfl)) ?_)
                  refine S_yes (j := 23) (dj := 95) (b := false) rfl rfl (congrArg Value.bool c91_f) (T_val (v := (Value.bool (decide (x16_.kV_Create < 1)))) (x_bin rfl rfl rfl) ?_)
                  refine S_yes (j := 3) (dj := 75) (b := true) rfl rfl (congrArg Value.bool c84_t) (T_pickF (v := (Value.bool (decide (x16_.kV_Create < 1)))) (congrArg Value.bool c91_f) rfl ?_)
                  refine S_yes (j := 3) (dj := 75) (b := true) rfl rfl (congrArg Value.bool c84_t) (T_val (v := (Value.bool (decide (x16_.kV_Create < 1)))) (x_move rfl) ?_)
                  rcases Bool.eq_false_or_eq_true (decide (x16_.kV_Create < 1)) with c94_t | c94_f
                  · have c94_tp : x16_.kV_Create < 1 := of_decide_eq_true c94_t
                    refine S_no (j := 29) (dj := 101) (b := true) rfl rfl (congrArg Value.bool c94_t) (by decide) ?_
                    refine S_no (j := 29) (dj := 101) (b := true) rfl rfl (congrArg Value.bool c94_t) (by decide) ?_
                    refine S_no (j := 29) (dj := 101) (b := true) rfl rfl (congrArg Value.bool c94_t) (by decide) ?_
                    refine S_no (j := 29) (dj := 101) (b := true) rfl rfl (congrArg Value.bool c94_t) (by decide) ?_
                    refine S_no (j := 29) (dj := 101) (b := true) rfl rfl (congrArg Value.bool c94_t) (by decide) ?_
                    refine S_no (j := 29) (dj := 101) (b := true) rfl rfl (congrArg Value.bool c94_t) (by decide) ?_
                    refine S_no (j := 29) (dj := 101) (b := true) rfl rfl (congrArg Value.bool c94_t) (by decide) ?_
                    refine S_yes (j := 3) (dj := 75) (b := true) rfl rfl (congrArg Value.bool c84_t) (T_pickT (v := (Value.bool true)) (congrArg Value.bool c94_t) rfl ?_)
                    refine S_list (T_pickT (v := (Value.bool true)) (congrArg Value.bool c84_t) rfl ?_)
                    refine wpList_nil ?_
                    refine (X_then (hK83_ _ _ ?_))
                    clear hK83_
                    refine C_condT rfl ?_
                    refine C_seq (fun K95_ hK95_ => ?_)
                    refine C_reg ?_
                    refine S_list (T_val (v := (Value.bool false)) (x_assign rfl) ?_)
                    refine wpList_nil ?_
                    refine (X_then (hK95_ _ _ ?_))
                    clear hK95_
                    refine C_ret (X_blkR (X_thenR (X_thenR (X_blkR (X_thenR ?_)))))
                    refine R_any (v := (Value.bool false)) (run_results1 rfl rfl) ?_
                    have H96_ : Holds w75_ (ro R :: F) := (Holds.erase (Holds.bring H76_ 1 rfl) 1)
                    exact ⟨_, [], rfl, ⟨false, rfl, rfl, (fun h => by first | (cases h; done) | exact ⟨by omega, fun x hx => by obtain ⟨i, hi, e⟩ := List.getElem_of_mem hx; exact hall i x (by omega) (by rw [List.getElem?_eq_getElem hi, e])⟩)⟩, S77_, H96_⟩
                  · have c94_fp : ¬ (x16_.kV_Create < 1) := of_decide_eq_false c94_f
                    refine S_yes (j := 29) (dj := 101) (b := false) rfl rfl (congrArg Value.bool c94_f) (T_val (v := (Value.pointer (some ⟨b19_, 3, none⟩))) (by kernel_rfl) ?_)
                    refine S_yes (j := 29) (dj := 101) (b := false) rfl rfl (congrArg Value.bool c94_f) (T_val (v := (Value.pointer (some ⟨b19_, 5, none⟩))) (by kernel_rfl) ?_)
                    refine S_yes (j := 29) (dj := 101) (b := false) rfl rfl (congrArg Value.bool c94_f) (T_val (v := (Value.int .i64 x16_.kV_Create)) (x_load1 rfl Try.underlying2 rfl ((Holds.rd H76_ 0 rfl) 5 (Value.int .i64 x16_.kV_Create) rfl)) ?_)
                    refine S_yes (j := 29) (dj := 101) (b := false) rfl rfl (congrArg Value.bool c94_f) (T_val (v := (Value.pointer (some ⟨b19_, 3, none⟩))) (by kernel_rfl) ?_)
                    refine S_yes (j := 29) (dj := 101) (b := false) rfl rfl (congrArg Value.bool c94_f) (T_val (v := (Value.pointer (some ⟨b19_, 6, none⟩))) (by kernel_rfl) ?_)
                    refine S_yes (j := 29) (dj := 101) (b := false) rfl rfl (congrArg Value.bool c94_f) (T_val (v := (Value.int .i64 x16_.kV_Mod)) (x_load1 rfl Try.underlying2 rfl ((Holds.rd H76_ 0 rfl) 6 (Value.int .i64 x16_.kV_Mod) rfl)) ?_)
                    refine S_yes (j := 29) (dj := 101) (b := false) rfl rfl (congrArg Value.bool c94_f) (T_val (v := (Value.bool (decide (x16_.kV_Mod < x16_.kV_Create)))) (x_bin rfl rfl rfl) ?_)
                    refine S_yes (j := 3) (dj := 75) (b := true) rfl rfl (congrArg Value.bool c84_t) (T_pickF (v := (Value.bool (decide (x16_.kV_Mod < x16_.kV_Create)))) (congrArg Value.bool c94_f) rfl ?_)
                    refine S_list (T_pickT (v := (Value.bool (decide (x16_.kV_Mod < x16_.kV_Create)))) (congrArg Value.bool c84_t) rfl ?_)
                    refine wpList_nil ?_
                    refine (X_then (hK83_ _ _ ?_))
                    clear hK83_
                    refine C_cond (b := decide (x16_.kV_Mod < x16_.kV_Create)) rfl (fun c97_t => ?_) (fun c97_f => ?_)
                    · have c97_tp : x16_.kV_Mod < x16_.kV_Create := of_decide_eq_true c97_t
                      refine C_seq (fun K98_ hK98_ => ?_)
                      refine C_reg ?_
                      refine S_list (T_val (v := (Value.bool false)) (x_assign rfl) ?_)
                      refine wpList_nil ?_
                      refine (X_then (hK98_ _ _ ?_))
                      clear hK98_
                      refine C_ret (X_blkR (X_thenR (X_thenR (X_blkR (X_thenR ?_)))))
                      refine R_any (v := (Value.bool false)) (run_results1 rfl rfl) ?_
                      have H99_ : Holds w75_ (ro R :: F) := (Holds.erase (Holds.bring H76_ 1 rfl) 1)
                      exact ⟨_, [], rfl, ⟨false, rfl, rfl, (fun h => by first | (cases h; done) | exact ⟨by omega, fun x hx => by obtain ⟨i, hi, e⟩ := List.getElem_of_mem hx; exact hall i x (by omega) (by rw [List.getElem?_eq_getElem hi, e])⟩)⟩, S77_, H99_⟩
                    · have c97_fp : ¬ (x16_.kV_Mod < x16_.kV_Create) := of_decide_eq_false c97_f
                      refine C_skip (X_blkN (X_then (hK14_ _ _ ?_)))
                      clear hK14_
                      refine C_reg ?_
                      refine S_list (T_val (v := (Value.int .i64 ((k : Int) + 1))) (x_bin rfl rfl (ib_add (IntWalk.i64_in _ (by omega)))) ?_)
                      refine S_list (T_val (v := (Value.int .i64 ((k : Int) + 1))) (x_move rfl) ?_)
                      refine wpList_nil ?_
                      refine (X_then ?_)
                      have H100_ : Holds w75_ (ro R :: F) := (Holds.erase (Holds.bring H76_ 1 rfl) 1)
                      exact ⟨⟨k + 1, s2_v⟩, ⟨_, congrArg (fun e => mkA 112 e []) (ch (ch (ch (ch (ch rfl rfl) rfl) rfl) rfl) (congrArg (Value.int .i64) ((by first | rfl | omega | (simp; done) | (simp; omega)) : (k : Int) + 1 = ((k + 1 : Nat) : Int)))), H100_, S77_, (by first | assumption | omega | exact rfl), (fun i y hi hy => by
            rcases Nat.lt_or_ge i k with hlt | hge
            · exact hall i y hlt hy
            · obtain rfl : i = k := by omega
              rw [hx17_] at hy; cases hy; exact hgx)⟩, by first | omega | (dsimp only; omega) | (simp; omega)⟩
          · skip
            refine S_no (j := 3) (dj := 75) (b := false) rfl rfl (congrArg Value.bool c84_f) (by decide) ?_
            refine S_no (j := 3) (dj := 75) (b := false) rfl rfl (congrArg Value.bool c84_f) (by decide) ?_
            refine S_no (j := 3) (dj := 75) (b := false) rfl rfl (congrArg Value.bool c84_f) (by decide) ?_
            refine S_no (j := 3) (dj := 75) (b := false) rfl rfl (congrArg Value.bool c84_f) (by decide) ?_
            refine S_no (j := 3) (dj := 75) (b := false) rfl rfl (congrArg Value.bool c84_f) (by decide) ?_
            refine S_no (j := 3) (dj := 75) (b := false) rfl rfl (congrArg Value.bool c84_f) (by decide) ?_
            refine S_no (j := 3) (dj := 75) (b := false) rfl rfl (congrArg Value.bool c84_f) (by decide) ?_
            refine S_no (j := 3) (dj := 75) (b := false) rfl rfl (congrArg Value.bool c84_f) (by decide) ?_
            refine S_noU (j := 11) (dj := 83) rfl rfl rfl ?_
            refine S_noU (j := 11) (dj := 83) rfl rfl rfl ?_
            refine S_noU (j := 11) (dj := 83) rfl rfl rfl ?_
            refine S_noU (j := 11) (dj := 83) rfl rfl rfl ?_
            refine S_no (j := 3) (dj := 75) (b := false) rfl rfl (congrArg Value.bool c84_f) (by decide) ?_
            refine S_no (j := 3) (dj := 75) (b := false) rfl rfl (congrArg Value.bool c84_f) (by decide) ?_
            refine S_noU (j := 17) (dj := 89) rfl rfl rfl ?_
            refine S_noU (j := 17) (dj := 89) rfl rfl rfl ?_
            refine S_noU (j := 17) (dj := 89) rfl rfl rfl ?_
            refine S_noU (j := 17) (dj := 89) rfl rfl rfl ?_
            refine S_no (j := 3) (dj := 75) (b := false) rfl rfl (congrArg Value.bool c84_f) (by decide) ?_
            refine S_no (j := 3) (dj := 75) (b := false) rfl rfl (congrArg Value.bool c84_f) (by decide) ?_
            refine S_noU (j := 23) (dj := 95) rfl rfl rfl ?_
            refine S_noU (j := 23) (dj := 95) rfl rfl rfl ?_
            refine S_noU (j := 23) (dj := 95) rfl rfl rfl ?_
            refine S_noU (j := 23) (dj := 95) rfl rfl rfl ?_
            refine S_no (j := 3) (dj := 75) (b := false) rfl rfl (congrArg Value.bool c84_f) (by decide) ?_
            refine S_no (j := 3) (dj := 75) (b := false) rfl rfl (congrArg Value.bool c84_f) (by decide) ?_
            refine S_noU (j := 29) (dj := 101) rfl rfl rfl ?_
            refine S_noU (j := 29) (dj := 101) rfl rfl rfl ?_
            refine S_noU (j := 29) (dj := 101) rfl rfl rfl ?_
            refine S_noU (j := 29) (dj := 101) rfl rfl rfl ?_
            refine S_noU (j := 29) (dj := 101) rfl rfl rfl ?_
            refine S_noU (j := 29) (dj := 101) rfl rfl rfl ?_
            refine S_noU (j := 29) (dj := 101) rfl rfl rfl ?_
            refine S_no (j := 3) (dj := 75) (b := false) rfl rfl (congrArg Value.bool c84_f) (by decide) ?_
            refine S_list (T_pickF (v := (Value.bool false)) (congrArg Value.bool c84_f) rfl ?_)
            refine wpList_nil ?_
            refine (X_then (hK83_ _ _ ?_))
            clear hK83_
            refine C_condF rfl ?_
            refine C_skip (X_blkN (X_then (hK14_ _ _ ?_)))
            clear hK14_
            refine C_reg ?_
            refine S_list (T_val (v := (Value.int .i64 ((k : Int) + 1))) (x_bin rfl rfl (ib_add (IntWalk.i64_in _ (by omega)))) ?_)
            refine S_list (T_val (v := (Value.int .i64 ((k : Int) + 1))) (x_move rfl) ?_)
            refine wpList_nil ?_
            refine (X_then ?_)
            have H101_ : Holds w75_ (ro R :: F) := (Holds.erase (Holds.bring H76_ 1 rfl) 1)
            exact ⟨⟨k + 1, s2_v⟩, ⟨_, congrArg (fun e => mkA 112 e []) (ch (ch (ch (ch (ch rfl rfl) rfl) rfl) rfl) (congrArg (Value.int .i64) ((by first | rfl | omega | (simp; done) | (simp; omega)) : (k : Int) + 1 = ((k + 1 : Nat) : Int)))), H101_, S77_, (by first | assumption | omega | exact rfl), (fun i y hi hy => by
            rcases Nat.lt_or_ge i k with hlt | hge
            · exact hall i y hlt hy
            · obtain rfl : i = k := by omega
              rw [hx17_] at hy; cases hy; exact hgx)⟩, by first | omega | (dsimp only; omega) | (simp; omega)⟩
    · have c13_fp : ¬ ((k : Int) < (L.length : Int)) := of_decide_eq_false c13_f
      refine C_exit (X_thenX (X_thenX (X_blkHit ?_)))
      refine (X_then (hK6_ _ _ ?_))
      clear hK6_
      refine C_seq (fun K102_ hK102_ => ?_)
      refine C_reg ?_
      refine S_list (T_val (v := (Value.bool true)) (x_assign rfl) ?_)
      refine wpList_nil ?_
      refine (X_then (hK102_ _ _ ?_))
      clear hK102_
      refine C_ret ?_
      refine R_any (v := (Value.bool true)) (run_results1 rfl rfl) ?_
      exact ⟨_, [], rfl, ⟨true, rfl, rfl, (fun h => by first | (cases h; done) | exact ⟨by omega, fun x hx => by obtain ⟨i, hi, e⟩ := List.getElem_of_mem hx; exact hall i x (by omega) (by rw [List.getElem?_eq_getElem hi, e])⟩)⟩, S10_, H9_⟩
end Go.Proofs.Ytgeggiebefonhaa
