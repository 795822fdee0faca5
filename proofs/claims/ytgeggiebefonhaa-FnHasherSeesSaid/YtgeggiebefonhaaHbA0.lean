/- Rows are brought in. -/
import Derived.Test.YtgeggiebefonhaaHbD
set_option linter.unusedVariables false
set_option linter.unusedSimpArgs false
namespace Go.Proofs.Ytgeggiebefonhaa
open Go Go.RowKit Gw

set_option maxHeartbeats 400000 in
theorem hRowsIn (R : HP) (v : Value) (L : List RW) (hL : RS R 9 v L.length (L.flatMap RW.cells)) (q1 : L.length ≤ 1000) (hS : ∀ x ∈ L, x.kV_Key.size ≤ 100 ∧ x.kV_Value.size ≤ 100) :
    TriG Try.prog 43 #[v] R [] (fun R' v__ post__ => ∃ (v' : Value) (zs : List ZR), v__ = v' ∧ post__ = [sl 166 4 v' (List.length zs) (zs.flatMap ZR.cells)] ∧ (ZipR R' zs L)) := by
  refine TriG.into (n := 34) (al := [v]) Try.func43 rfl Try.ntmps43 rfl rfl fun w F H => ?_
  replace H : Holds w (ro R :: F) := H
  refine C_seq (fun K1_ hK1_ => ?_)
  refine C_reg ?_
  refine S_list (T_val (v := (Value.slice none 0 0)) (x_assign rfl) ?_)
  refine wpList_nil ?_
  refine (X_then (hK1_ _ _ ?_))
  clear hK1_
  refine C_seq (fun K2_ hK2_ => ?_)
  refine C_reg ?_
  refine S_list (T_val (v := (Value.slice none 0 0)) (x_assign rfl) ?_)
  refine wpList_nil ?_
  refine (X_then (hK2_ _ _ ?_))
  clear hK2_
  refine C_seq (fun K3_ hK3_ => ?_)
  refine C_seq (fun K4_ hK4_ => ?_)
  refine C_reg ?_
  refine S_list (T_val (v := (Value.int .i64 0)) (x_assign rfl) ?_)
  refine wpList_nil ?_
  refine (X_then (hK4_ _ _ ?_))
  clear hK4_
  refine C_block ?_
  have H5_ : Holds w (sl 166 4 (Value.slice none 0 0) (List.length ([] : List ZR)) (([] : List ZR).flatMap ZR.cells) :: ro R :: F) := Holds.add_nil H 166 4
  refine C_loop (γ := HP × Nat × Value × (List ZR)) (fun x__ a__ w1__ => match x__ with | ⟨R1, k, v1, zs⟩ => ∃ h : Env, a__ = mkA 34 (upd (upd (upd (upd h 0 v) 2 (Value.slice none 0 0)) 3 v1) 4 (Value.int .i64 (k : Int))) [] ∧ Holds w1__ (sl 166 4 v1 (List.length zs) (zs.flatMap ZR.cells) :: ro R1 :: F) ∧ Same w w1__ ∧ (Sub R R1) ∧ (k ≤ L.length) ∧ (ZipR R1 zs (List.take k L))) (fun x__ => match x__ with | ⟨R1, k, v1, zs⟩ => L.length - k) (⟨R, 0, (Value.slice none 0 0), ([] : List ZR)⟩) ⟨_, congrArg (fun e => mkA 34 e []) (ch (ch (ch (ch rfl rfl) rfl) (rfl : (Value.slice none 0 0) = ((Value.slice none 0 0)))) (congrArg (Value.int .i64) ((by first | rfl | omega | (simp; done) | (simp; omega)) : 0 = (0 : Int)))), H5_, (Same.refl w), (Sub.rfl' _), (by first | assumption | omega | exact rfl), (⟨rfl, fun i x h => by simp at h⟩)⟩ ?_
  rintro ⟨R1, k, v1, zs⟩ _ w6_ ⟨h, rfl, H7_, S8_, hsR1, hk, hz⟩
  refine C_seq (fun K9_ hK9_ => ?_)
  refine C_seq (fun K10_ hK10_ => ?_)
  refine C_reg ?_
  refine S_list (T_val (v := (Value.int .i64 (k : Int))) (x_move rfl) ?_)
  refine S_list (T_val (v := v) (x_move rfl) ?_)
  refine S_list (T_val (v := (Value.int .i64 (L.length : Int))) (x_lenRS rfl (RS.mono hL hsR1) Try.underlying34) ?_)
  refine S_list (T_val (v := (Value.bool (decide ((k : Int) < (L.length : Int))))) (x_bin rfl rfl rfl) ?_)
  refine wpList_nil ?_
  refine (X_then (hK10_ _ _ ?_))
  clear hK10_
  refine C_cond (b := decide ((k : Int) < (L.length : Int))) rfl (fun c11_t => ?_) (fun c11_f => ?_)
  · have c11_tp : (k : Int) < (L.length : Int) := of_decide_eq_true c11_t
    refine C_skip (X_then (hK9_ _ _ ?_))
    clear hK9_
    refine C_seq (fun K12_ hK12_ => ?_)
    refine C_block ?_
    refine A_start (S := fun w => Sub R1 (hp w)) (N := 23) foll rfl rfl ?_
    have H13_ : Holds w6_.drew (sl 166 4 v1 (List.length zs) (zs.flatMap ZR.cells) :: ro R1 :: F) := H7_
    have hq14_ := ((Holds.ro_at H13_ 1 rfl))
    refine A_tk 0 (v := v1) rfl (by kernel_rfl) (fun w hS => x_move rfl) hq14_ ?_
    refine A_tk 1 (v := v) rfl (by kernel_rfl) (fun w hS => x_move rfl) hq14_ ?_
    refine A_tk 2 (v := (Value.int .i64 (k : Int))) rfl (by kernel_rfl) (fun w hS => x_move rfl) hq14_ ?_
    obtain ⟨x15_, hx16_, hm17_⟩ := elem_at L k (by omega)
    have hp18_ := hS x15_ hm17_
    have := hS x15_ hm17_
    refine A_tk 3 (v := (Value.pointer (some ⟨(sb v), so v + (k * 9 + 0), none⟩))) rfl (by kernel_rfl) (fun w hS => x_idxRS (v := v) rfl (RS.mono hL hsR1) rfl Try.underlying34 z42 (by omega) (by omega) (by omega : _ = k) rfl) hq14_ ?_
    refine A_tk 4 (v := (Value.pointer (some ⟨(sb v), so v + (k * 9 + 0), none⟩))) rfl (by kernel_rfl) (fun w hS => by kernel_rfl) hq14_ ?_
    refine A_tk 5 (v := (Value.agg #[(Value.int .i64 x15_.rev_Main), (Value.int .i64 x15_.rev_Sub)])) rfl (by kernel_rfl) (fun w hS => x_loadN (vs := [(Value.int .i64 x15_.rev_Main), (Value.int .i64 x15_.rev_Sub)]) rfl Try.underlying38 rfl z38 rfl (RC.cells (RS.rc (RS.mono hL hsR1)) hS (k * 9 + 0) (fm_cells RW.len hx16_ (i := 0) rfl))) hq14_ ?_
    refine A_tk 7 (v := v) rfl (by kernel_rfl) (fun w hS => x_move rfl) hq14_ ?_
    refine A_tk 8 (v := (Value.int .i64 (k : Int))) rfl (by kernel_rfl) (fun w hS => x_move rfl) hq14_ ?_
    refine A_tk 9 (v := (Value.pointer (some ⟨(sb v), so v + (k * 9 + 0), none⟩))) rfl (by kernel_rfl) (fun w hS => x_idxRS (v := v) rfl (RS.mono hL hsR1) rfl Try.underlying34 z42 (by omega) (by omega) (by omega : _ = k) rfl) hq14_ ?_
    refine A_tk 10 (v := (Value.pointer (some ⟨(sb v), so v + (k * 9 + 2), none⟩))) rfl (by kernel_rfl) (fun w hS => by kernel_rfl) hq14_ ?_
    refine A_tk 11 (v := (Value.bool x15_.gone)) rfl (by kernel_rfl) (fun w hS => x_load1 rfl Try.underlying4 rfl (RC.cell (RS.rc (RS.mono hL hsR1)) hS (j := k * 9 + 2) (u := (Value.bool x15_.gone)) (fm_cell RW.len hx16_ (i := 2) rfl))) hq14_ ?_
    refine A_tk 13 (v := v) rfl (by kernel_rfl) (fun w hS => x_move rfl) hq14_ ?_
    refine A_tk 14 (v := (Value.int .i64 (k : Int))) rfl (by kernel_rfl) (fun w hS => x_move rfl) hq14_ ?_
    refine A_tk 15 (v := (Value.pointer (some ⟨(sb v), so v + (k * 9 + 0), none⟩))) rfl (by kernel_rfl) (fun w hS => x_idxRS (v := v) rfl (RS.mono hL hsR1) rfl Try.underlying34 z42 (by omega) (by omega) (by omega : _ = k) rfl) hq14_ ?_
    refine A_tk 16 (v := (Value.pointer (some ⟨(sb v), so v + (k * 9 + 3), none⟩))) rfl (by kernel_rfl) (fun w hS => by kernel_rfl) hq14_ ?_
    refine A_tk 17 (v := (Value.agg #[(Value.string x15_.kV_Key), (Value.string x15_.kV_Value), (Value.int .i64 x15_.kV_Create), (Value.int .i64 x15_.kV_Mod), (Value.int .i64 x15_.kV_Version), (Value.int .i64 x15_.kV_Lease)])) rfl (by kernel_rfl) (fun w hS => x_loadN (vs := [(Value.string x15_.kV_Key), (Value.string x15_.kV_Value), (Value.int .i64 x15_.kV_Create), (Value.int .i64 x15_.kV_Mod), (Value.int .i64 x15_.kV_Version), (Value.int .i64 x15_.kV_Lease)]) rfl Try.underlying40 rfl z40 rfl (RC.cells (RS.rc (RS.mono hL hsR1)) hS (k * 9 + 3) (fm_cells RW.len hx16_ (i := 3) rfl))) hq14_ ?_
    refine A_ready (i := 6) (rs := []) (by kernel_rfl) ?_
    refine AllR.cons ?_ AllR.nil
    refine A_op (ls' := #[true, true, true, true, true, true, true, true, true, true, true, true, false, true, true, true, true, true, false, false, false, false, false]) rfl (by kernel_rfl) (T_callW (al := [(Value.agg #[(Value.int .i64 x15_.rev_Main), (Value.int .i64 x15_.rev_Sub)])]) rfl rfl cb71 (Calls.into (n := 8) (al := [(Value.agg #[(Value.int .i64 x15_.rev_Main), (Value.int .i64 x15_.rev_Sub)])]) Try.func71 rfl Try.ntmps71 rfl rfl ?_))
    refine C_seq (fun K19_ hK19_ => ?_)
    refine C_reg ?_
    refine S_list (T_box (v := (Value.agg #[(Value.int .i64 x15_.rev_Main), (Value.int .i64 x15_.rev_Sub)])) rfl H13_ ?_)
    intro b20_ w21_ S23_ H22_
    replace H22_ : Holds w21_ (cl b20_ 38 [(Value.int .i64 x15_.rev_Main), (Value.int .i64 x15_.rev_Sub)] :: sl 166 4 v1 (List.length zs) (zs.flatMap ZR.cells) :: ro R1 :: F) := H22_
    have S24_ := Same.trans (Same.trans S8_ (Same.drew _)) S23_
    refine S_list (T_alloc z146 H22_ ?_)
    intro b25_ w26_ S28_ H27_
    replace H27_ : Holds w26_ (cl b25_ 146 [(Value.int .i64 0), (Value.int .i64 0)] :: cl b20_ 38 [(Value.int .i64 x15_.rev_Main), (Value.int .i64 x15_.rev_Sub)] :: sl 166 4 v1 (List.length zs) (zs.flatMap ZR.cells) :: ro R1 :: F) := H27_
    have S29_ := Same.trans S24_ S28_
    refine wpList_nil ?_
    refine (X_then (hK19_ _ _ ?_))
    clear hK19_
    refine C_seq (fun K30_ hK30_ => ?_)
    refine C_reg ?_
    refine S_list (T_val (v := (Value.pointer (some ⟨b20_, 0, none⟩))) (by kernel_rfl) ?_)
    refine S_list (T_val (v := (Value.int .i64 x15_.rev_Main)) (x_load1 rfl Try.underlying2 rfl ((Holds.rd H27_ 1 rfl) 0 (Value.int .i64 x15_.rev_Main) rfl)) ?_)
    refine S_list (T_val (v := (Value.pointer (some ⟨b20_, 1, none⟩))) (by kernel_rfl) ?_)
    refine S_list (T_val (v := (Value.int .i64 x15_.rev_Sub)) (x_load1 rfl Try.underlying2 rfl ((Holds.rd H27_ 1 rfl) 1 (Value.int .i64 x15_.rev_Sub) rfl)) ?_)
    refine S_list (T_val (v := (Value.agg #[(Value.int .i64 x15_.rev_Main), (Value.int .i64 x15_.rev_Sub)])) (by kernel_rfl) ?_)
    refine S_list0 (T_storeN (vs := [(Value.int .i64 x15_.rev_Main), (Value.int .i64 x15_.rev_Sub)]) rfl rfl z146 rfl (by simp [Value.oneCell']) H27_ 0 rfl (Nat.le_of_ble_eq_true (by rfl)) ?_)
    intro w31_ S33_ H32_
    replace H32_ : Holds w31_ (cl b25_ 146 [(Value.int .i64 x15_.rev_Main), (Value.int .i64 x15_.rev_Sub)] :: cl b20_ 38 [(Value.int .i64 x15_.rev_Main), (Value.int .i64 x15_.rev_Sub)] :: sl 166 4 v1 (List.length zs) (zs.flatMap ZR.cells) :: ro R1 :: F) := H32_
    have S34_ := Same.trans S29_ S33_
    refine wpList_nil ?_
    refine (X_then (hK30_ _ _ ?_))
    clear hK30_
    refine C_ret ?_
    refine R_any (v := (Value.agg #[(Value.int .i64 x15_.rev_Main), (Value.int .i64 x15_.rev_Sub)])) (run_results1 rfl ⟨_, rfl, load_resN Try.underlying146 rfl z146 rfl (vs := [(Value.int .i64 x15_.rev_Main), (Value.int .i64 x15_.rev_Sub)]) (Holds.cl_cells H32_ 0 rfl 0 rfl)⟩) ⟨_, rfl, ?_⟩
    refine ⟨((Holds.ro_at H32_ 3 rfl)), ?_⟩
    refine A_ready (i := 12) (rs := []) (by kernel_rfl) ?_
    refine AllR.cons ?_ AllR.nil
    refine A_op (ls' := #[true, true, true, true, true, true, true, true, true, true, true, true, true, true, true, true, true, true, false, false, false, false, false]) rfl (by kernel_rfl) (T_callW (al := [(Value.agg #[(Value.int .i64 x15_.rev_Main), (Value.int .i64 x15_.rev_Sub)]), (Value.bool x15_.gone)]) rfl rfl cb72 (Calls.into (n := 11) (al := [(Value.agg #[(Value.int .i64 x15_.rev_Main), (Value.int .i64 x15_.rev_Sub)]), (Value.bool x15_.gone)]) Try.func72 rfl Try.ntmps72 rfl rfl ?_))
    refine C_seq (fun K35_ hK35_ => ?_)
    refine C_reg ?_
    refine S_list (T_box (v := (Value.agg #[(Value.int .i64 x15_.rev_Main), (Value.int .i64 x15_.rev_Sub)])) rfl H32_ ?_)
    intro b36_ w37_ S39_ H38_
    replace H38_ : Holds w37_ (cl b36_ 146 [(Value.int .i64 x15_.rev_Main), (Value.int .i64 x15_.rev_Sub)] :: cl b25_ 146 [(Value.int .i64 x15_.rev_Main), (Value.int .i64 x15_.rev_Sub)] :: cl b20_ 38 [(Value.int .i64 x15_.rev_Main), (Value.int .i64 x15_.rev_Sub)] :: sl 166 4 v1 (List.length zs) (zs.flatMap ZR.cells) :: ro R1 :: F) := H38_
    have S40_ := Same.trans S34_ S39_
    refine S_list (T_alloc z161 H38_ ?_)
    intro b41_ w42_ S44_ H43_
    replace H43_ : Holds w42_ (cl b41_ 161 [(Value.int .i64 0), (Value.int .i64 0), (Value.bool false)] :: cl b36_ 146 [(Value.int .i64 x15_.rev_Main), (Value.int .i64 x15_.rev_Sub)] :: cl b25_ 146 [(Value.int .i64 x15_.rev_Main), (Value.int .i64 x15_.rev_Sub)] :: cl b20_ 38 [(Value.int .i64 x15_.rev_Main), (Value.int .i64 x15_.rev_Sub)] :: sl 166 4 v1 (List.length zs) (zs.flatMap ZR.cells) :: ro R1 :: F) := H43_
    have S45_ := Same.trans S40_ S44_
    refine wpList_nil ?_
    refine (X_then (hK35_ _ _ ?_))
    clear hK35_
    refine C_seq (fun K46_ hK46_ => ?_)
    refine C_reg ?_
    refine S_list (T_val (v := (Value.pointer (some ⟨b36_, 0, none⟩))) (by kernel_rfl) ?_)
    refine S_list (T_val (v := (Value.int .i64 x15_.rev_Main)) (x_load1 rfl Try.underlying2 rfl ((Holds.rd H43_ 1 rfl) 0 (Value.int .i64 x15_.rev_Main) rfl)) ?_)
    refine S_list (T_val (v := (Value.pointer (some ⟨b36_, 1, none⟩))) (by kernel_rfl) ?_)
    refine S_list (T_val (v := (Value.int .i64 x15_.rev_Sub)) (x_load1 rfl Try.underlying2 rfl ((Holds.rd H43_ 1 rfl) 1 (Value.int .i64 x15_.rev_Sub) rfl)) ?_)
    refine S_list (T_val (v := (Value.bool x15_.gone)) (x_move rfl) ?_)
    refine S_list (T_callW (al := [(Value.int .i64 x15_.rev_Main), (Value.int .i64 x15_.rev_Sub), (Value.bool x15_.gone)]) rfl rfl cb97 (Calls.into (n := 12) (al := [(Value.int .i64 x15_.rev_Main), (Value.int .i64 x15_.rev_Sub), (Value.bool x15_.gone)]) Try.func97 rfl Try.ntmps97 rfl rfl ?_))
    refine C_seq (fun K47_ hK47_ => ?_)
    refine C_reg ?_
    refine S_list (T_alloc z161 H43_ ?_)
    intro b48_ w49_ S51_ H50_
    replace H50_ : Holds w49_ (cl b48_ 161 [(Value.int .i64 0), (Value.int .i64 0), (Value.bool false)] :: cl b41_ 161 [(Value.int .i64 0), (Value.int .i64 0), (Value.bool false)] :: cl b36_ 146 [(Value.int .i64 x15_.rev_Main), (Value.int .i64 x15_.rev_Sub)] :: cl b25_ 146 [(Value.int .i64 x15_.rev_Main), (Value.int .i64 x15_.rev_Sub)] :: cl b20_ 38 [(Value.int .i64 x15_.rev_Main), (Value.int .i64 x15_.rev_Sub)] :: sl 166 4 v1 (List.length zs) (zs.flatMap ZR.cells) :: ro R1 :: F) := H50_
    have S52_ := Same.trans S45_ S51_
    refine wpList_nil ?_
    refine (X_then (hK47_ _ _ ?_))
    clear hK47_
    refine C_seq (fun K53_ hK53_ => ?_)
    refine C_reg ?_
    refine S_list (T_val (v := (Value.int .i64 x15_.rev_Main)) (x_move rfl) ?_)
    refine S_list (T_val (v := (Value.int .i64 x15_.rev_Sub)) (x_move rfl) ?_)
    refine S_list (T_val (v := (Value.agg #[(Value.int .i64 x15_.rev_Main), (Value.int .i64 x15_.rev_Sub)])) (by kernel_rfl) ?_)
    refine S_list (T_val (v := (Value.bool x15_.gone)) (x_move rfl) ?_)
    refine S_list (T_val (v := (Value.agg #[(Value.int .i64 x15_.rev_Main), (Value.int .i64 x15_.rev_Sub), (Value.bool x15_.gone)])) (by kernel_rfl) ?_)
    refine S_list0 (T_storeN (vs := [(Value.int .i64 x15_.rev_Main), (Value.int .i64 x15_.rev_Sub), (Value.bool x15_.gone)]) rfl rfl z161 rfl (by simp [Value.oneCell']) H50_ 0 rfl (Nat.le_of_ble_eq_true (by rfl)) ?_)
    intro w54_ S56_ H55_
    replace H55_ : Holds w54_ (cl b48_ 161 [(Value.int .i64 x15_.rev_Main), (Value.int .i64 x15_.rev_Sub), (Value.bool x15_.gone)] :: cl b41_ 161 [(Value.int .i64 0), (Value.int .i64 0), (Value.bool false)] :: cl b36_ 146 [(Value.int .i64 x15_.rev_Main), (Value.int .i64 x15_.rev_Sub)] :: cl b25_ 146 [(Value.int .i64 x15_.rev_Main), (Value.int .i64 x15_.rev_Sub)] :: cl b20_ 38 [(Value.int .i64 x15_.rev_Main), (Value.int .i64 x15_.rev_Sub)] :: sl 166 4 v1 (List.length zs) (zs.flatMap ZR.cells) :: ro R1 :: F) := H55_
    have S57_ := Same.trans S52_ S56_
    refine wpList_nil ?_
    refine (X_then (hK53_ _ _ ?_))
    clear hK53_
    refine C_ret ?_
    refine R_any (v := (Value.agg #[(Value.int .i64 x15_.rev_Main), (Value.int .i64 x15_.rev_Sub), (Value.bool x15_.gone)])) (run_results1 rfl ⟨_, rfl, load_resN Try.underlying161 rfl z161 rfl (vs := [(Value.int .i64 x15_.rev_Main), (Value.int .i64 x15_.rev_Sub), (Value.bool x15_.gone)]) (Holds.cl_cells H55_ 0 rfl 0 rfl)⟩) ⟨_, rfl, ?_⟩
    refine S_list0 (T_storeN (vs := [(Value.int .i64 x15_.rev_Main), (Value.int .i64 x15_.rev_Sub), (Value.bool x15_.gone)]) rfl rfl z161 rfl (by simp [Value.oneCell']) H55_ 1 rfl (Nat.le_of_ble_eq_true (by rfl)) ?_)
    intro w58_ S60_ H59_
    replace H59_ : Holds w58_ (cl b48_ 161 [(Value.int .i64 x15_.rev_Main), (Value.int .i64 x15_.rev_Sub), (Value.bool x15_.gone)] :: cl b41_ 161 [(Value.int .i64 x15_.rev_Main), (Value.int .i64 x15_.rev_Sub), (Value.bool x15_.gone)] :: cl b36_ 146 [(Value.int .i64 x15_.rev_Main), (Value.int .i64 x15_.rev_Sub)] :: cl b25_ 146 [(Value.int .i64 x15_.rev_Main), (Value.int .i64 x15_.rev_Sub)] :: cl b20_ 38 [(Value.int .i64 x15_.rev_Main), (Value.int .i64 x15_.rev_Sub)] :: sl 166 4 v1 (List.length zs) (zs.flatMap ZR.cells) :: ro R1 :: F) := H59_
    have S61_ := Same.trans S57_ S60_
    refine wpList_nil ?_
    refine (X_then (hK46_ _ _ ?_))
    clear hK46_
    refine C_ret ?_
    refine R_any (v := (Value.agg #[(Value.int .i64 x15_.rev_Main), (Value.int .i64 x15_.rev_Sub), (Value.bool x15_.gone)])) (run_results1 rfl ⟨_, rfl, load_resN Try.underlying161 rfl z161 rfl (vs := [(Value.int .i64 x15_.rev_Main), (Value.int .i64 x15_.rev_Sub), (Value.bool x15_.gone)]) (Holds.cl_cells H59_ 1 rfl 0 rfl)⟩) ⟨_, rfl, ?_⟩
    refine ⟨((Holds.ro_at H59_ 6 rfl)), ?_⟩
    refine A_ready (i := 18) (rs := []) (by kernel_rfl) ?_
    refine AllR.cons ?_ AllR.nil
    refine A_op (ls' := #[true, true, true, true, true, true, true, true, true, true, true, true, true, true, true, true, true, true, true, false, false, false, false]) rfl (by kernel_rfl) (T_callW (al := [(Value.agg #[(Value.string x15_.kV_Key), (Value.string x15_.kV_Value), (Value.int .i64 x15_.kV_Create), (Value.int .i64 x15_.kV_Mod), (Value.int .i64 x15_.kV_Version), (Value.int .i64 x15_.kV_Lease)])]) rfl rfl cb73 (Calls.into (n := 19) (al := [(Value.agg #[(Value.string x15_.kV_Key), (Value.string x15_.kV_Value), (Value.int .i64 x15_.kV_Create), (Value.int .i64 x15_.kV_Mod), (Value.int .i64 x15_.kV_Version), (Value.int .i64 x15_.kV_Lease)])]) Try.func73 rfl Try.ntmps73 rfl rfl ?_))
    refine C_seq (fun K62_ hK62_ => ?_)
    refine C_reg ?_
    refine S_list (T_box (v := (Value.agg #[(Value.string x15_.kV_Key), (Value.string x15_.kV_Value), (Value.int .i64 x15_.kV_Create), (Value.int .i64 x15_.kV_Mod), (Value.int .i64 x15_.kV_Version), (Value.int .i64 x15_.kV_Lease)])) rfl H59_ ?_)
    intro b63_ w64_ S66_ H65_
    replace H65_ : Holds w64_ (cl b63_ 40 [(Value.string x15_.kV_Key), (Value.string x15_.kV_Value), (Value.int .i64 x15_.kV_Create), (Value.int .i64 x15_.kV_Mod), (Value.int .i64 x15_.kV_Version), (Value.int .i64 x15_.kV_Lease)] :: cl b48_ 161 [(Value.int .i64 x15_.rev_Main), (Value.int .i64 x15_.rev_Sub), (Value.bool x15_.gone)] :: cl b41_ 161 [(Value.int .i64 x15_.rev_Main), (Value.int .i64 x15_.rev_Sub), (Value.bool x15_.gone)] :: cl b36_ 146 [(Value.int .i64 x15_.rev_Main), (Value.int .i64 x15_.rev_Sub)] :: cl b25_ 146 [(Value.int .i64 x15_.rev_Main), (Value.int .i64 x15_.rev_Sub)] :: cl b20_ 38 [(Value.int .i64 x15_.rev_Main), (Value.int .i64 x15_.rev_Sub)] :: sl 166 4 v1 (List.length zs) (zs.flatMap ZR.cells) :: ro R1 :: F) := H65_
    have S67_ := Same.trans S61_ S66_
    refine S_list (T_val (v := (Value.pointer none)) (x_assign rfl) ?_)
    refine wpList_nil ?_
    refine (X_then (hK62_ _ _ ?_))
    clear hK62_
    refine C_seq (fun K68_ hK68_ => ?_)
    refine C_reg ?_
    refine S_list (T_val (v := (Value.pointer (some ⟨b63_, 0, none⟩))) (by kernel_rfl) ?_)
    refine S_list (T_val (v := (Value.string x15_.kV_Key)) (x_load1 rfl Try.underlying9 rfl ((Holds.rd H65_ 0 rfl) 0 (Value.string x15_.kV_Key) rfl)) ?_)
    refine S_list (T_s2b rfl Try.underlying9 Try.underlying43 Try.underlying5 H65_ ?_)
    intro b69_ cp70_ w71_ S73_ hc74_ H72_
    have S75_ := Same.trans S67_ S73_
    have H76_ : Holds w71_ (sl 5 1 (Value.slice (some ⟨b69_, 0, none⟩) x15_.kV_Key.size cp70_) x15_.kV_Key.size (bytesV (ints x15_.kV_Key)) :: cl b63_ 40 [(Value.string x15_.kV_Key), (Value.string x15_.kV_Value), (Value.int .i64 x15_.kV_Create), (Value.int .i64 x15_.kV_Mod), (Value.int .i64 x15_.kV_Version), (Value.int .i64 x15_.kV_Lease)] :: cl b48_ 161 [(Value.int .i64 x15_.rev_Main), (Value.int .i64 x15_.rev_Sub), (Value.bool x15_.gone)] :: cl b41_ 161 [(Value.int .i64 x15_.rev_Main), (Value.int .i64 x15_.rev_Sub), (Value.bool x15_.gone)] :: cl b36_ 146 [(Value.int .i64 x15_.rev_Main), (Value.int .i64 x15_.rev_Sub)] :: cl b25_ 146 [(Value.int .i64 x15_.rev_Main), (Value.int .i64 x15_.rev_Sub)] :: cl b20_ 38 [(Value.int .i64 x15_.rev_Main), (Value.int .i64 x15_.rev_Sub)] :: sl 166 4 v1 (List.length zs) (zs.flatMap ZR.cells) :: ro R1 :: F) := cast2 (P := fun (c__ : List Value) (k__ : Nat) => Holds w71_ (sl 5 1 (Value.slice (some ⟨b69_, 0, none⟩) x15_.kV_Key.size cp70_) k__ c__ :: cl b63_ 40 [(Value.string x15_.kV_Key), (Value.string x15_.kV_Value), (Value.int .i64 x15_.kV_Create), (Value.int .i64 x15_.kV_Mod), (Value.int .i64 x15_.kV_Version), (Value.int .i64 x15_.kV_Lease)] :: cl b48_ 161 [(Value.int .i64 x15_.rev_Main), (Value.int .i64 x15_.rev_Sub), (Value.bool x15_.gone)] :: cl b41_ 161 [(Value.int .i64 x15_.rev_Main), (Value.int .i64 x15_.rev_Sub), (Value.bool x15_.gone)] :: cl b36_ 146 [(Value.int .i64 x15_.rev_Main), (Value.int .i64 x15_.rev_Sub)] :: cl b25_ 146 [(Value.int .i64 x15_.rev_Main), (Value.int .i64 x15_.rev_Sub)] :: cl b20_ 38 [(Value.int .i64 x15_.rev_Main), (Value.int .i64 x15_.rev_Sub)] :: sl 166 4 v1 (List.length zs) (zs.flatMap ZR.cells) :: ro R1 :: F)) (byteCells_bytesV _ : byteCells x15_.kV_Key = bytesV (ints x15_.kV_Key)) (rfl : x15_.kV_Key.size = x15_.kV_Key.size) H72_
    have H77_ : Holds w71_ (sl 5 1 (Value.slice (some ⟨b69_, 0, none⟩) x15_.kV_Key.size cp70_) (List.length (ints x15_.kV_Key)) (bytesV (ints x15_.kV_Key)) :: cl b63_ 40 [(Value.string x15_.kV_Key), (Value.string x15_.kV_Value), (Value.int .i64 x15_.kV_Create), (Value.int .i64 x15_.kV_Mod), (Value.int .i64 x15_.kV_Version), (Value.int .i64 x15_.kV_Lease)] :: cl b48_ 161 [(Value.int .i64 x15_.rev_Main), (Value.int .i64 x15_.rev_Sub), (Value.bool x15_.gone)] :: cl b41_ 161 [(Value.int .i64 x15_.rev_Main), (Value.int .i64 x15_.rev_Sub), (Value.bool x15_.gone)] :: cl b36_ 146 [(Value.int .i64 x15_.rev_Main), (Value.int .i64 x15_.rev_Sub)] :: cl b25_ 146 [(Value.int .i64 x15_.rev_Main), (Value.int .i64 x15_.rev_Sub)] :: cl b20_ 38 [(Value.int .i64 x15_.rev_Main), (Value.int .i64 x15_.rev_Sub)] :: sl 166 4 v1 (List.length zs) (zs.flatMap ZR.cells) :: ro R1 :: F) := cast2 (P := fun (c__ : List Value) (k__ : Nat) => Holds w71_ (sl 5 1 (Value.slice (some ⟨b69_, 0, none⟩) x15_.kV_Key.size cp70_) k__ c__ :: cl b63_ 40 [(Value.string x15_.kV_Key), (Value.string x15_.kV_Value), (Value.int .i64 x15_.kV_Create), (Value.int .i64 x15_.kV_Mod), (Value.int .i64 x15_.kV_Version), (Value.int .i64 x15_.kV_Lease)] :: cl b48_ 161 [(Value.int .i64 x15_.rev_Main), (Value.int .i64 x15_.rev_Sub), (Value.bool x15_.gone)] :: cl b41_ 161 [(Value.int .i64 x15_.rev_Main), (Value.int .i64 x15_.rev_Sub), (Value.bool x15_.gone)] :: cl b36_ 146 [(Value.int .i64 x15_.rev_Main), (Value.int .i64 x15_.rev_Sub)] :: cl b25_ 146 [(Value.int .i64 x15_.rev_Main), (Value.int .i64 x15_.rev_Sub)] :: cl b20_ 38 [(Value.int .i64 x15_.rev_Main), (Value.int .i64 x15_.rev_Sub)] :: sl 166 4 v1 (List.length zs) (zs.flatMap ZR.cells) :: ro R1 :: F)) (rfl : bytesV (ints x15_.kV_Key) = bytesV (ints x15_.kV_Key)) ((ints_length _).symm : x15_.kV_Key.size = (List.length (ints x15_.kV_Key))) H76_
    refine S_list (T_val (v := (Value.pointer (some ⟨b63_, 1, none⟩))) (by kernel_rfl) ?_)
    refine S_list (T_val (v := (Value.string x15_.kV_Value)) (x_load1 rfl Try.underlying9 rfl ((Holds.rd H77_ 1 rfl) 1 (Value.string x15_.kV_Value) rfl)) ?_)
    refine S_list (T_s2b rfl Try.underlying9 Try.underlying43 Try.underlying5 H77_ ?_)
    intro b78_ cp79_ w80_ S82_ hc83_ H81_
    have S84_ := Same.trans S75_ S82_
    have H85_ : Holds w80_ (sl 5 1 (Value.slice (some ⟨b78_, 0, none⟩) x15_.kV_Value.size cp79_) x15_.kV_Value.size (bytesV (ints x15_.kV_Value)) :: sl 5 1 (Value.slice (some ⟨b69_, 0, none⟩) x15_.kV_Key.size cp70_) (List.length (ints x15_.kV_Key)) (bytesV (ints x15_.kV_Key)) :: cl b63_ 40 [(Value.string x15_.kV_Key), (Value.string x15_.kV_Value), (Value.int .i64 x15_.kV_Create), (Value.int .i64 x15_.kV_Mod), (Value.int .i64 x15_.kV_Version), (Value.int .i64 x15_.kV_Lease)] :: cl b48_ 161 [(Value.int .i64 x15_.rev_Main), (Value.int .i64 x15_.rev_Sub), (Value.bool x15_.gone)] :: cl b41_ 161 [(Value.int .i64 x15_.rev_Main), (Value.int .i64 x15_.rev_Sub), (Value.bool x15_.gone)] :: cl b36_ 146 [(Value.int .i64 x15_.rev_Main), (Value.int .i64 x15_.rev_Sub)] :: cl b25_ 146 [(Value.int .i64 x15_.rev_Main), (Value.int .i64 x15_.rev_Sub)] :: cl b20_ 38 [(Value.int .i64 x15_.rev_Main), (Value.int .i64 x15_.rev_Sub)] :: sl 166 4 v1 (List.length zs) (zs.flatMap ZR.cells) :: ro R1 :: F) := cast2 (P := fun (c__ : List Value) (k__ : Nat) => Holds w80_ (sl 5 1 (Value.slice (some ⟨b78_, 0, none⟩) x15_.kV_Value.size cp79_) k__ c__ :: sl 5 1 (Value.slice (some ⟨b69_, 0, none⟩) x15_.kV_Key.size cp70_) (List.length (ints x15_.kV_Key)) (bytesV (ints x15_.kV_Key)) :: cl b63_ 40 [(Value.string x15_.kV_Key), (Value.string x15_.kV_Value), (Value.int .i64 x15_.kV_Create), (Value.int .i64 x15_.kV_Mod), (Value.int .i64 x15_.kV_Version), (Value.int .i64 x15_.kV_Lease)] :: cl b48_ 161 [(Value.int .i64 x15_.rev_Main), (Value.int .i64 x15_.rev_Sub), (Value.bool x15_.gone)] :: cl b41_ 161 [(Value.int .i64 x15_.rev_Main), (Value.int .i64 x15_.rev_Sub), (Value.bool x15_.gone)] :: cl b36_ 146 [(Value.int .i64 x15_.rev_Main), (Value.int .i64 x15_.rev_Sub)] :: cl b25_ 146 [(Value.int .i64 x15_.rev_Main), (Value.int .i64 x15_.rev_Sub)] :: cl b20_ 38 [(Value.int .i64 x15_.rev_Main), (Value.int .i64 x15_.rev_Sub)] :: sl 166 4 v1 (List.length zs) (zs.flatMap ZR.cells) :: ro R1 :: F)) (byteCells_bytesV _ : byteCells x15_.kV_Value = bytesV (ints x15_.kV_Value)) (rfl : x15_.kV_Value.size = x15_.kV_Value.size) H81_
    have H86_ : Holds w80_ (sl 5 1 (Value.slice (some ⟨b78_, 0, none⟩) x15_.kV_Value.size cp79_) (List.length (ints x15_.kV_Value)) (bytesV (ints x15_.kV_Value)) :: sl 5 1 (Value.slice (some ⟨b69_, 0, none⟩) x15_.kV_Key.size cp70_) (List.length (ints x15_.kV_Key)) (bytesV (ints x15_.kV_Key)) :: cl b63_ 40 [(Value.string x15_.kV_Key), (Value.string x15_.kV_Value), (Value.int .i64 x15_.kV_Create), (Value.int .i64 x15_.kV_Mod), (Value.int .i64 x15_.kV_Version), (Value.int .i64 x15_.kV_Lease)] :: cl b48_ 161 [(Value.int .i64 x15_.rev_Main), (Value.int .i64 x15_.rev_Sub), (Value.bool x15_.gone)] :: cl b41_ 161 [(Value.int .i64 x15_.rev_Main), (Value.int .i64 x15_.rev_Sub), (Value.bool x15_.gone)] :: cl b36_ 146 [(Value.int .i64 x15_.rev_Main), (Value.int .i64 x15_.rev_Sub)] :: cl b25_ 146 [(Value.int .i64 x15_.rev_Main), (Value.int .i64 x15_.rev_Sub)] :: cl b20_ 38 [(Value.int .i64 x15_.rev_Main), (Value.int .i64 x15_.rev_Sub)] :: sl 166 4 v1 (List.length zs) (zs.flatMap ZR.cells) :: ro R1 :: F) := cast2 (P := fun (c__ : List Value) (k__ : Nat) => Holds w80_ (sl 5 1 (Value.slice (some ⟨b78_, 0, none⟩) x15_.kV_Value.size cp79_) k__ c__ :: sl 5 1 (Value.slice (some ⟨b69_, 0, none⟩) x15_.kV_Key.size cp70_) (List.length (ints x15_.kV_Key)) (bytesV (ints x15_.kV_Key)) :: cl b63_ 40 [(Value.string x15_.kV_Key), (Value.string x15_.kV_Value), (Value.int .i64 x15_.kV_Create), (Value.int .i64 x15_.kV_Mod), (Value.int .i64 x15_.kV_Version), (Value.int .i64 x15_.kV_Lease)] :: cl b48_ 161 [(Value.int .i64 x15_.rev_Main), (Value.int .i64 x15_.rev_Sub), (Value.bool x15_.gone)] :: cl b41_ 161 [(Value.int .i64 x15_.rev_Main), (Value.int .i64 x15_.rev_Sub), (Value.bool x15_.gone)] :: cl b36_ 146 [(Value.int .i64 x15_.rev_Main), (Value.int .i64 x15_.rev_Sub)] :: cl b25_ 146 [(Value.int .i64 x15_.rev_Main), (Value.int .i64 x15_.rev_Sub)] :: cl b20_ 38 [(Value.int .i64 x15_.rev_Main), (Value.int .i64 x15_.rev_Sub)] :: sl 166 4 v1 (List.length zs) (zs.flatMap ZR.cells) :: ro R1 :: F)) (rfl : bytesV (ints x15_.kV_Value) = bytesV (ints x15_.kV_Value)) ((ints_length _).symm : x15_.kV_Value.size = (List.length (ints x15_.kV_Value))) H85_
    refine S_list (T_val (v := (Value.pointer (some ⟨b63_, 2, none⟩))) (by kernel_rfl) ?_)
    refine S_list (T_val (v := (Value.int .i64 x15_.kV_Create)) (x_load1 rfl Try.underlying2 rfl ((Holds.rd H86_ 2 rfl) 2 (Value.int .i64 x15_.kV_Create) rfl)) ?_)
    refine S_list (T_val (v := (Value.pointer (some ⟨b63_, 3, none⟩))) (by kernel_rfl) ?_)
    refine S_list (T_val (v := (Value.int .i64 x15_.kV_Mod)) (x_load1 rfl Try.underlying2 rfl ((Holds.rd H86_ 2 rfl) 3 (Value.int .i64 x15_.kV_Mod) rfl)) ?_)
    refine S_list (T_val (v := (Value.pointer (some ⟨b63_, 4, none⟩))) (by kernel_rfl) ?_)
    refine S_list (T_val (v := (Value.int .i64 x15_.kV_Version)) (x_load1 rfl Try.underlying2 rfl ((Holds.rd H86_ 2 rfl) 4 (Value.int .i64 x15_.kV_Version) rfl)) ?_)
    refine S_list (T_val (v := (Value.pointer (some ⟨b63_, 5, none⟩))) (by kernel_rfl) ?_)
    refine S_list (T_val (v := (Value.int .i64 x15_.kV_Lease)) (x_load1 rfl Try.underlying2 rfl ((Holds.rd H86_ 2 rfl) 5 (Value.int .i64 x15_.kV_Lease) rfl)) ?_)
    refine S_list (T_val (v := (Value.agg #[(Value.slice (some ⟨b69_, 0, none⟩) x15_.kV_Key.size cp70_), (Value.int .i64 x15_.kV_Create), (Value.int .i64 x15_.kV_Mod), (Value.int .i64 x15_.kV_Version), (Value.slice (some ⟨b78_, 0, none⟩) x15_.kV_Value.size cp79_), (Value.int .i64 x15_.kV_Lease)])) (by kernel_rfl) ?_)
    refine S_list (T_box (v := (Value.agg #[(Value.slice (some ⟨b69_, 0, none⟩) x15_.kV_Key.size cp70_), (Value.int .i64 x15_.kV_Create), (Value.int .i64 x15_.kV_Mod), (Value.int .i64 x15_.kV_Version), (Value.slice (some ⟨b78_, 0, none⟩) x15_.kV_Value.size cp79_), (Value.int .i64 x15_.kV_Lease)])) rfl H86_ ?_)
    intro b87_ w88_ S90_ H89_
    replace H89_ : Holds w88_ (cl b87_ 210 [(Value.slice (some ⟨b69_, 0, none⟩) x15_.kV_Key.size cp70_), (Value.int .i64 x15_.kV_Create), (Value.int .i64 x15_.kV_Mod), (Value.int .i64 x15_.kV_Version), (Value.slice (some ⟨b78_, 0, none⟩) x15_.kV_Value.size cp79_), (Value.int .i64 x15_.kV_Lease)] :: sl 5 1 (Value.slice (some ⟨b78_, 0, none⟩) x15_.kV_Value.size cp79_) (List.length (ints x15_.kV_Value)) (bytesV (ints x15_.kV_Value)) :: sl 5 1 (Value.slice (some ⟨b69_, 0, none⟩) x15_.kV_Key.size cp70_) (List.length (ints x15_.kV_Key)) (bytesV (ints x15_.kV_Key)) :: cl b63_ 40 [(Value.string x15_.kV_Key), (Value.string x15_.kV_Value), (Value.int .i64 x15_.kV_Create), (Value.int .i64 x15_.kV_Mod), (Value.int .i64 x15_.kV_Version), (Value.int .i64 x15_.kV_Lease)] :: cl b48_ 161 [(Value.int .i64 x15_.rev_Main), (Value.int .i64 x15_.rev_Sub), (Value.bool x15_.gone)] :: cl b41_ 161 [(Value.int .i64 x15_.rev_Main), (Value.int .i64 x15_.rev_Sub), (Value.bool x15_.gone)] :: cl b36_ 146 [(Value.int .i64 x15_.rev_Main), (Value.int .i64 x15_.rev_Sub)] :: cl b25_ 146 [(Value.int .i64 x15_.rev_Main), (Value.int .i64 x15_.rev_Sub)] :: cl b20_ 38 [(Value.int .i64 x15_.rev_Main), (Value.int .i64 x15_.rev_Sub)] :: sl 166 4 v1 (List.length zs) (zs.flatMap ZR.cells) :: ro R1 :: F) := H89_
    have S91_ := Same.trans S84_ S90_
    refine S_list (T_val (v := (Value.pointer (some ⟨b87_, 0, none⟩))) (x_assign rfl) ?_)
    refine wpList_nil ?_
    refine (X_then (hK68_ _ _ ?_))
    clear hK68_
    refine C_ret ?_
    refine R_any (v := (Value.pointer (some ⟨b87_, 0, none⟩))) (run_results1 rfl rfl) ⟨_, rfl, ?_⟩
    refine ⟨((Holds.ro_at H89_ 10 rfl)), ?_⟩
    have hq92_ := ((Holds.ro_at H89_ 10 rfl))
    refine A_tk 19 (v := (Value.agg #[(Value.int .i64 x15_.rev_Main), (Value.int .i64 x15_.rev_Sub), (Value.bool x15_.gone), (Value.pointer (some ⟨b87_, 0, none⟩))])) rfl (by kernel_rfl) (fun w hS => by kernel_rfl) hq92_ ?_
    refine A_ready (i := 20) (rs := []) (by kernel_rfl) ?_
    refine AllR.cons ?_ AllR.nil
    refine A_op (ls' := #[true, true, true, true, true, true, true, true, true, true, true, true, true, true, true, true, true, true, true, true, true, false, false]) rfl (by kernel_rfl) (T_new (obj := .cells #[(Value.int .i64 x15_.rev_Main), (Value.int .i64 x15_.rev_Sub), (Value.bool x15_.gone), (Value.pointer (some ⟨b87_, 0, none⟩))] 166) (f := fun b__ => .slice (some ⟨b__, 0, none⟩) 1 1) (A := fun b__ => cl b__ 166 [(Value.int .i64 x15_.rev_Main), (Value.int .i64 x15_.rev_Sub), (Value.bool x15_.gone), (Value.pointer (some ⟨b87_, 0, none⟩))]) (by kernel_rfl) (fun l h => h.alloc _ _) H89_ ?_)
    intro b93_ w94_ S96_ H95_
    replace H95_ : Holds w94_ (cl b93_ 166 [(Value.int .i64 x15_.rev_Main), (Value.int .i64 x15_.rev_Sub), (Value.bool x15_.gone), (Value.pointer (some ⟨b87_, 0, none⟩))] :: cl b87_ 210 [(Value.slice (some ⟨b69_, 0, none⟩) x15_.kV_Key.size cp70_), (Value.int .i64 x15_.kV_Create), (Value.int .i64 x15_.kV_Mod), (Value.int .i64 x15_.kV_Version), (Value.slice (some ⟨b78_, 0, none⟩) x15_.kV_Value.size cp79_), (Value.int .i64 x15_.kV_Lease)] :: sl 5 1 (Value.slice (some ⟨b78_, 0, none⟩) x15_.kV_Value.size cp79_) (List.length (ints x15_.kV_Value)) (bytesV (ints x15_.kV_Value)) :: sl 5 1 (Value.slice (some ⟨b69_, 0, none⟩) x15_.kV_Key.size cp70_) (List.length (ints x15_.kV_Key)) (bytesV (ints x15_.kV_Key)) :: cl b63_ 40 [(Value.string x15_.kV_Key), (Value.string x15_.kV_Value), (Value.int .i64 x15_.kV_Create), (Value.int .i64 x15_.kV_Mod), (Value.int .i64 x15_.kV_Version), (Value.int .i64 x15_.kV_Lease)] :: cl b48_ 161 [(Value.int .i64 x15_.rev_Main), (Value.int .i64 x15_.rev_Sub), (Value.bool x15_.gone)] :: cl b41_ 161 [(Value.int .i64 x15_.rev_Main), (Value.int .i64 x15_.rev_Sub), (Value.bool x15_.gone)] :: cl b36_ 146 [(Value.int .i64 x15_.rev_Main), (Value.int .i64 x15_.rev_Sub)] :: cl b25_ 146 [(Value.int .i64 x15_.rev_Main), (Value.int .i64 x15_.rev_Sub)] :: cl b20_ 38 [(Value.int .i64 x15_.rev_Main), (Value.int .i64 x15_.rev_Sub)] :: sl 166 4 v1 (List.length zs) (zs.flatMap ZR.cells) :: ro R1 :: F) := H95_
    have S97_ := Same.trans S91_ S96_
    refine ⟨((Holds.ro_at H95_ 11 rfl)), ?_⟩
    refine A_ready (i := 21) (rs := []) (by kernel_rfl) ?_
    refine AllR.cons ?_ AllR.nil
    refine A_op (ls' := #[true, true, true, true, true, true, true, true, true, true, true, true, true, true, true, true, true, true, true, true, true, true, false]) rfl (by kernel_rfl) (T_append rfl rfl Try.underlying92 z166 rfl (by decide) H95_ 10 rfl (Holds.cl_src H95_ 0 rfl Try.underlying92 (by simp [Value.oneCell']) rfl) (by have := hz.1; rw [List.length_take] at this; omega) ?_)
    intro v98_ w99_ S101_ H100_
    replace H100_ : Holds w99_ (cl b93_ 166 [(Value.int .i64 x15_.rev_Main), (Value.int .i64 x15_.rev_Sub), (Value.bool x15_.gone), (Value.pointer (some ⟨b87_, 0, none⟩))] :: cl b87_ 210 [(Value.slice (some ⟨b69_, 0, none⟩) x15_.kV_Key.size cp70_), (Value.int .i64 x15_.kV_Create), (Value.int .i64 x15_.kV_Mod), (Value.int .i64 x15_.kV_Version), (Value.slice (some ⟨b78_, 0, none⟩) x15_.kV_Value.size cp79_), (Value.int .i64 x15_.kV_Lease)] :: sl 5 1 (Value.slice (some ⟨b78_, 0, none⟩) x15_.kV_Value.size cp79_) (List.length (ints x15_.kV_Value)) (bytesV (ints x15_.kV_Value)) :: sl 5 1 (Value.slice (some ⟨b69_, 0, none⟩) x15_.kV_Key.size cp70_) (List.length (ints x15_.kV_Key)) (bytesV (ints x15_.kV_Key)) :: cl b63_ 40 [(Value.string x15_.kV_Key), (Value.string x15_.kV_Value), (Value.int .i64 x15_.kV_Create), (Value.int .i64 x15_.kV_Mod), (Value.int .i64 x15_.kV_Version), (Value.int .i64 x15_.kV_Lease)] :: cl b48_ 161 [(Value.int .i64 x15_.rev_Main), (Value.int .i64 x15_.rev_Sub), (Value.bool x15_.gone)] :: cl b41_ 161 [(Value.int .i64 x15_.rev_Main), (Value.int .i64 x15_.rev_Sub), (Value.bool x15_.gone)] :: cl b36_ 146 [(Value.int .i64 x15_.rev_Main), (Value.int .i64 x15_.rev_Sub)] :: cl b25_ 146 [(Value.int .i64 x15_.rev_Main), (Value.int .i64 x15_.rev_Sub)] :: cl b20_ 38 [(Value.int .i64 x15_.rev_Main), (Value.int .i64 x15_.rev_Sub)] :: sl 166 4 v98_ ((List.length zs) + 1) ((zs.flatMap ZR.cells) ++ [(Value.int .i64 x15_.rev_Main), (Value.int .i64 x15_.rev_Sub), (Value.bool x15_.gone), (Value.pointer (some ⟨b87_, 0, none⟩))]) :: ro R1 :: F) := H100_
    have S102_ := Same.trans S97_ S101_
    refine ⟨((Holds.ro_at H100_ 11 rfl)), ?_⟩
    have hq103_ := ((Holds.ro_at H100_ 11 rfl))
    refine A_tk 22 (v := v98_) rfl (by kernel_rfl) (fun w hS => x_assign rfl) hq103_ ?_
    refine A_done (by kernel_rfl) ?_
    refine (X_blkN (X_then (hK12_ _ _ ?_)))
    clear hK12_
    refine C_reg ?_
    refine S_list (T_val (v := (Value.int .i64 (k : Int))) (x_move rfl) ?_)
    refine S_list (T_val (v := (Value.int .i64 ((k : Int) + 1))) (x_bin rfl rfl (ib_add (IntWalk.i64_in _ (by omega)))) ?_)
    refine S_list (T_val (v := (Value.int .i64 ((k : Int) + 1))) (x_assign rfl) ?_)
    refine wpList_nil ?_
    refine (X_then ?_)
    have H104_ : Holds w99_ (ro R1 :: sl 5 1 (Value.slice (some ⟨b69_, 0, none⟩) x15_.kV_Key.size cp70_) (List.length (ints x15_.kV_Key)) (bytesV (ints x15_.kV_Key)) :: cl b93_ 166 [(Value.int .i64 x15_.rev_Main), (Value.int .i64 x15_.rev_Sub), (Value.bool x15_.gone), (Value.pointer (some ⟨b87_, 0, none⟩))] :: cl b87_ 210 [(Value.slice (some ⟨b69_, 0, none⟩) x15_.kV_Key.size cp70_), (Value.int .i64 x15_.kV_Create), (Value.int .i64 x15_.kV_Mod), (Value.int .i64 x15_.kV_Version), (Value.slice (some ⟨b78_, 0, none⟩) x15_.kV_Value.size cp79_), (Value.int .i64 x15_.kV_Lease)] :: sl 5 1 (Value.slice (some ⟨b78_, 0, none⟩) x15_.kV_Value.size cp79_) (List.length (ints x15_.kV_Value)) (bytesV (ints x15_.kV_Value)) :: cl b63_ 40 [(Value.string x15_.kV_Key), (Value.string x15_.kV_Value), (Value.int .i64 x15_.kV_Create), (Value.int .i64 x15_.kV_Mod), (Value.int .i64 x15_.kV_Version), (Value.int .i64 x15_.kV_Lease)] :: cl b48_ 161 [(Value.int .i64 x15_.rev_Main), (Value.int .i64 x15_.rev_Sub), (Value.bool x15_.gone)] :: cl b41_ 161 [(Value.int .i64 x15_.rev_Main), (Value.int .i64 x15_.rev_Sub), (Value.bool x15_.gone)] :: cl b36_ 146 [(Value.int .i64 x15_.rev_Main), (Value.int .i64 x15_.rev_Sub)] :: cl b25_ 146 [(Value.int .i64 x15_.rev_Main), (Value.int .i64 x15_.rev_Sub)] :: cl b20_ 38 [(Value.int .i64 x15_.rev_Main), (Value.int .i64 x15_.rev_Sub)] :: sl 166 4 v98_ ((List.length zs) + 1) ((zs.flatMap ZR.cells) ++ [(Value.int .i64 x15_.rev_Main), (Value.int .i64 x15_.rev_Sub), (Value.bool x15_.gone), (Value.pointer (some ⟨b87_, 0, none⟩))]) :: F) := (Holds.bring (Holds.bring H100_ 3 rfl) 11 rfl)
    obtain ⟨R105_, hs106_, ⟨R107_, ha108_, hs109_⟩, H110_⟩ := Holds.gift H104_
    replace H110_ : Holds w99_ (ro R105_ :: cl b93_ 166 [(Value.int .i64 x15_.rev_Main), (Value.int .i64 x15_.rev_Sub), (Value.bool x15_.gone), (Value.pointer (some ⟨b87_, 0, none⟩))] :: cl b87_ 210 [(Value.slice (some ⟨b69_, 0, none⟩) x15_.kV_Key.size cp70_), (Value.int .i64 x15_.kV_Create), (Value.int .i64 x15_.kV_Mod), (Value.int .i64 x15_.kV_Version), (Value.slice (some ⟨b78_, 0, none⟩) x15_.kV_Value.size cp79_), (Value.int .i64 x15_.kV_Lease)] :: sl 5 1 (Value.slice (some ⟨b78_, 0, none⟩) x15_.kV_Value.size cp79_) (List.length (ints x15_.kV_Value)) (bytesV (ints x15_.kV_Value)) :: cl b63_ 40 [(Value.string x15_.kV_Key), (Value.string x15_.kV_Value), (Value.int .i64 x15_.kV_Create), (Value.int .i64 x15_.kV_Mod), (Value.int .i64 x15_.kV_Version), (Value.int .i64 x15_.kV_Lease)] :: cl b48_ 161 [(Value.int .i64 x15_.rev_Main), (Value.int .i64 x15_.rev_Sub), (Value.bool x15_.gone)] :: cl b41_ 161 [(Value.int .i64 x15_.rev_Main), (Value.int .i64 x15_.rev_Sub), (Value.bool x15_.gone)] :: cl b36_ 146 [(Value.int .i64 x15_.rev_Main), (Value.int .i64 x15_.rev_Sub)] :: cl b25_ 146 [(Value.int .i64 x15_.rev_Main), (Value.int .i64 x15_.rev_Sub)] :: cl b20_ 38 [(Value.int .i64 x15_.rev_Main), (Value.int .i64 x15_.rev_Sub)] :: sl 166 4 v98_ ((List.length zs) + 1) ((zs.flatMap ZR.cells) ++ [(Value.int .i64 x15_.rev_Main), (Value.int .i64 x15_.rev_Sub), (Value.bool x15_.gone), (Value.pointer (some ⟨b87_, 0, none⟩))]) :: F) := H110_
    have hs111_ := Sub.trans' hsR1 hs106_
    have hr112_ : RS R105_ 1 (Value.slice (some ⟨b69_, 0, none⟩) x15_.kV_Key.size cp70_) (List.length (ints x15_.kV_Key)) (bytesV (ints x15_.kV_Key)) := (sl_RS ha108_ (Sub.rfl' _)).mono hs109_
    have H113_ : Holds w99_ (ro R105_ :: sl 5 1 (Value.slice (some ⟨b78_, 0, none⟩) x15_.kV_Value.size cp79_) (List.length (ints x15_.kV_Value)) (bytesV (ints x15_.kV_Value)) :: cl b93_ 166 [(Value.int .i64 x15_.rev_Main), (Value.int .i64 x15_.rev_Sub), (Value.bool x15_.gone), (Value.pointer (some ⟨b87_, 0, none⟩))] :: cl b87_ 210 [(Value.slice (some ⟨b69_, 0, none⟩) x15_.kV_Key.size cp70_), (Value.int .i64 x15_.kV_Create), (Value.int .i64 x15_.kV_Mod), (Value.int .i64 x15_.kV_Version), (Value.slice (some ⟨b78_, 0, none⟩) x15_.kV_Value.size cp79_), (Value.int .i64 x15_.kV_Lease)] :: cl b63_ 40 [(Value.string x15_.kV_Key), (Value.string x15_.kV_Value), (Value.int .i64 x15_.kV_Create), (Value.int .i64 x15_.kV_Mod), (Value.int .i64 x15_.kV_Version), (Value.int .i64 x15_.kV_Lease)] :: cl b48_ 161 [(Value.int .i64 x15_.rev_Main), (Value.int .i64 x15_.rev_Sub), (Value.bool x15_.gone)] :: cl b41_ 161 [(Value.int .i64 x15_.rev_Main), (Value.int .i64 x15_.rev_Sub), (Value.bool x15_.gone)] :: cl b36_ 146 [(Value.int .i64 x15_.rev_Main), (Value.int .i64 x15_.rev_Sub)] :: cl b25_ 146 [(Value.int .i64 x15_.rev_Main), (Value.int .i64 x15_.rev_Sub)] :: cl b20_ 38 [(Value.int .i64 x15_.rev_Main), (Value.int .i64 x15_.rev_Sub)] :: sl 166 4 v98_ ((List.length zs) + 1) ((zs.flatMap ZR.cells) ++ [(Value.int .i64 x15_.rev_Main), (Value.int .i64 x15_.rev_Sub), (Value.bool x15_.gone), (Value.pointer (some ⟨b87_, 0, none⟩))]) :: F) := (Holds.bring (Holds.bring H110_ 3 rfl) 1 rfl)
    obtain ⟨R114_, hs115_, ⟨R116_, ha117_, hs118_⟩, H119_⟩ := Holds.gift H113_
    replace H119_ : Holds w99_ (ro R114_ :: cl b93_ 166 [(Value.int .i64 x15_.rev_Main), (Value.int .i64 x15_.rev_Sub), (Value.bool x15_.gone), (Value.pointer (some ⟨b87_, 0, none⟩))] :: cl b87_ 210 [(Value.slice (some ⟨b69_, 0, none⟩) x15_.kV_Key.size cp70_), (Value.int .i64 x15_.kV_Create), (Value.int .i64 x15_.kV_Mod), (Value.int .i64 x15_.kV_Version), (Value.slice (some ⟨b78_, 0, none⟩) x15_.kV_Value.size cp79_), (Value.int .i64 x15_.kV_Lease)] :: cl b63_ 40 [(Value.string x15_.kV_Key), (Value.string x15_.kV_Value), (Value.int .i64 x15_.kV_Create), (Value.int .i64 x15_.kV_Mod), (Value.int .i64 x15_.kV_Version), (Value.int .i64 x15_.kV_Lease)] :: cl b48_ 161 [(Value.int .i64 x15_.rev_Main), (Value.int .i64 x15_.rev_Sub), (Value.bool x15_.gone)] :: cl b41_ 161 [(Value.int .i64 x15_.rev_Main), (Value.int .i64 x15_.rev_Sub), (Value.bool x15_.gone)] :: cl b36_ 146 [(Value.int .i64 x15_.rev_Main), (Value.int .i64 x15_.rev_Sub)] :: cl b25_ 146 [(Value.int .i64 x15_.rev_Main), (Value.int .i64 x15_.rev_Sub)] :: cl b20_ 38 [(Value.int .i64 x15_.rev_Main), (Value.int .i64 x15_.rev_Sub)] :: sl 166 4 v98_ ((List.length zs) + 1) ((zs.flatMap ZR.cells) ++ [(Value.int .i64 x15_.rev_Main), (Value.int .i64 x15_.rev_Sub), (Value.bool x15_.gone), (Value.pointer (some ⟨b87_, 0, none⟩))]) :: F) := H119_
    have hs120_ := Sub.trans' hs111_ hs115_
    have hs121_ := Sub.trans' hs106_ hs115_
    have hr122_ : RS R114_ 1 (Value.slice (some ⟨b78_, 0, none⟩) x15_.kV_Value.size cp79_) (List.length (ints x15_.kV_Value)) (bytesV (ints x15_.kV_Value)) := (sl_RS ha117_ (Sub.rfl' _)).mono hs118_
    have H123_ : Holds w99_ (ro R114_ :: cl b87_ 210 [(Value.slice (some ⟨b69_, 0, none⟩) x15_.kV_Key.size cp70_), (Value.int .i64 x15_.kV_Create), (Value.int .i64 x15_.kV_Mod), (Value.int .i64 x15_.kV_Version), (Value.slice (some ⟨b78_, 0, none⟩) x15_.kV_Value.size cp79_), (Value.int .i64 x15_.kV_Lease)] :: cl b93_ 166 [(Value.int .i64 x15_.rev_Main), (Value.int .i64 x15_.rev_Sub), (Value.bool x15_.gone), (Value.pointer (some ⟨b87_, 0, none⟩))] :: cl b63_ 40 [(Value.string x15_.kV_Key), (Value.string x15_.kV_Value), (Value.int .i64 x15_.kV_Create), (Value.int .i64 x15_.kV_Mod), (Value.int .i64 x15_.kV_Version), (Value.int .i64 x15_.kV_Lease)] :: cl b48_ 161 [(Value.int .i64 x15_.rev_Main), (Value.int .i64 x15_.rev_Sub), (Value.bool x15_.gone)] :: cl b41_ 161 [(Value.int .i64 x15_.rev_Main), (Value.int .i64 x15_.rev_Sub), (Value.bool x15_.gone)] :: cl b36_ 146 [(Value.int .i64 x15_.rev_Main), (Value.int .i64 x15_.rev_Sub)] :: cl b25_ 146 [(Value.int .i64 x15_.rev_Main), (Value.int .i64 x15_.rev_Sub)] :: cl b20_ 38 [(Value.int .i64 x15_.rev_Main), (Value.int .i64 x15_.rev_Sub)] :: sl 166 4 v98_ ((List.length zs) + 1) ((zs.flatMap ZR.cells) ++ [(Value.int .i64 x15_.rev_Main), (Value.int .i64 x15_.rev_Sub), (Value.bool x15_.gone), (Value.pointer (some ⟨b87_, 0, none⟩))]) :: F) := (Holds.bring (Holds.bring H119_ 2 rfl) 1 rfl)
    obtain ⟨R124_, hs125_, ⟨R126_, ha127_, hs128_⟩, H129_⟩ := Holds.gift H123_
    replace H129_ : Holds w99_ (ro R124_ :: cl b93_ 166 [(Value.int .i64 x15_.rev_Main), (Value.int .i64 x15_.rev_Sub), (Value.bool x15_.gone), (Value.pointer (some ⟨b87_, 0, none⟩))] :: cl b63_ 40 [(Value.string x15_.kV_Key), (Value.string x15_.kV_Value), (Value.int .i64 x15_.kV_Create), (Value.int .i64 x15_.kV_Mod), (Value.int .i64 x15_.kV_Version), (Value.int .i64 x15_.kV_Lease)] :: cl b48_ 161 [(Value.int .i64 x15_.rev_Main), (Value.int .i64 x15_.rev_Sub), (Value.bool x15_.gone)] :: cl b41_ 161 [(Value.int .i64 x15_.rev_Main), (Value.int .i64 x15_.rev_Sub), (Value.bool x15_.gone)] :: cl b36_ 146 [(Value.int .i64 x15_.rev_Main), (Value.int .i64 x15_.rev_Sub)] :: cl b25_ 146 [(Value.int .i64 x15_.rev_Main), (Value.int .i64 x15_.rev_Sub)] :: cl b20_ 38 [(Value.int .i64 x15_.rev_Main), (Value.int .i64 x15_.rev_Sub)] :: sl 166 4 v98_ ((List.length zs) + 1) ((zs.flatMap ZR.cells) ++ [(Value.int .i64 x15_.rev_Main), (Value.int .i64 x15_.rev_Sub), (Value.bool x15_.gone), (Value.pointer (some ⟨b87_, 0, none⟩))]) :: F) := H129_
    have hs131_ := Sub.trans' hs120_ hs125_
    have hs132_ := Sub.trans' hs121_ hs125_
    have hs133_ := Sub.trans' hs115_ hs125_
    have hr130_ : RC R124_ b87_ 0 [(Value.slice (some ⟨b69_, 0, none⟩) x15_.kV_Key.size cp70_), (Value.int .i64 x15_.kV_Create), (Value.int .i64 x15_.kV_Mod), (Value.int .i64 x15_.kV_Version), (Value.slice (some ⟨b78_, 0, none⟩) x15_.kV_Value.size cp79_), (Value.int .i64 x15_.kV_Lease)] := (cl_RC ha127_ (Sub.rfl' _)).mono hs128_
    have hkv134_ : KVat R124_ b87_ (Value.slice (some ⟨b69_, 0, none⟩) x15_.kV_Key.size cp70_) (Value.slice (some ⟨b78_, 0, none⟩) x15_.kV_Value.size cp79_) x15_ := ⟨hr130_, (RS.mono hr112_ hs133_), (RS.mono hr122_ hs125_)⟩
    have H135_ : Holds w99_ (ro R124_ :: cl b93_ 166 [(Value.int .i64 x15_.rev_Main), (Value.int .i64 x15_.rev_Sub), (Value.bool x15_.gone), (Value.pointer (some ⟨b87_, 0, none⟩))] :: cl b63_ 40 [(Value.string x15_.kV_Key), (Value.string x15_.kV_Value), (Value.int .i64 x15_.kV_Create), (Value.int .i64 x15_.kV_Mod), (Value.int .i64 x15_.kV_Version), (Value.int .i64 x15_.kV_Lease)] :: cl b48_ 161 [(Value.int .i64 x15_.rev_Main), (Value.int .i64 x15_.rev_Sub), (Value.bool x15_.gone)] :: cl b41_ 161 [(Value.int .i64 x15_.rev_Main), (Value.int .i64 x15_.rev_Sub), (Value.bool x15_.gone)] :: cl b36_ 146 [(Value.int .i64 x15_.rev_Main), (Value.int .i64 x15_.rev_Sub)] :: cl b25_ 146 [(Value.int .i64 x15_.rev_Main), (Value.int .i64 x15_.rev_Sub)] :: cl b20_ 38 [(Value.int .i64 x15_.rev_Main), (Value.int .i64 x15_.rev_Sub)] :: sl 166 4 v98_ (List.length (zs ++ [ZRof x15_ b87_])) ((zs ++ [ZRof x15_ b87_]).flatMap ZR.cells) :: F) := cast2 (P := fun (c__ : List Value) (k__ : Nat) => Holds w99_ (ro R124_ :: cl b93_ 166 [(Value.int .i64 x15_.rev_Main), (Value.int .i64 x15_.rev_Sub), (Value.bool x15_.gone), (Value.pointer (some ⟨b87_, 0, none⟩))] :: cl b63_ 40 [(Value.string x15_.kV_Key), (Value.string x15_.kV_Value), (Value.int .i64 x15_.kV_Create), (Value.int .i64 x15_.kV_Mod), (Value.int .i64 x15_.kV_Version), (Value.int .i64 x15_.kV_Lease)] :: cl b48_ 161 [(Value.int .i64 x15_.rev_Main), (Value.int .i64 x15_.rev_Sub), (Value.bool x15_.gone)] :: cl b41_ 161 [(Value.int .i64 x15_.rev_Main), (Value.int .i64 x15_.rev_Sub), (Value.bool x15_.gone)] :: cl b36_ 146 [(Value.int .i64 x15_.rev_Main), (Value.int .i64 x15_.rev_Sub)] :: cl b25_ 146 [(Value.int .i64 x15_.rev_Main), (Value.int .i64 x15_.rev_Sub)] :: cl b20_ 38 [(Value.int .i64 x15_.rev_Main), (Value.int .i64 x15_.rev_Sub)] :: sl 166 4 v98_ k__ c__ :: F)) ((by simp [ZRof, ZR.cells]) : (zs.flatMap ZR.cells) ++ [(Value.int .i64 x15_.rev_Main), (Value.int .i64 x15_.rev_Sub), (Value.bool x15_.gone), (Value.pointer (some ⟨b87_, 0, none⟩))] = (zs ++ [ZRof x15_ b87_]).flatMap ZR.cells) ((by simp [ZRof, ZR.cells]) : (List.length zs) + 1 = (List.length (zs ++ [ZRof x15_ b87_]))) H129_
    have H136_ : Holds w99_ (sl 166 4 v98_ (List.length (zs ++ [ZRof x15_ b87_])) ((zs ++ [ZRof x15_ b87_]).flatMap ZR.cells) :: ro R124_ :: F) := (Holds.erase (Holds.erase (Holds.erase (Holds.erase (Holds.erase (Holds.erase (Holds.erase (Holds.bring (Holds.bring H135_ 0 rfl) 8 rfl) 2) 2) 2) 2) 2) 2) 2)
    exact ⟨⟨R124_, k + 1, v98_, zs ++ [ZRof x15_ b87_]⟩, ⟨_, congrArg (fun e => mkA 34 e []) (ch (ch (ch (ch rfl rfl) rfl) rfl) (congrArg (Value.int .i64) ((by first | rfl | omega | (simp; done) | (simp; omega)) : (k : Int) + 1 = ((k + 1 : Nat) : Int)))), H136_, S102_, (hs131_), (by first | assumption | omega | exact rfl), (ZipR.next hz hs132_ hx16_ hkv134_)⟩, by first | omega | (dsimp only; omega) | (simp; omega)⟩
  · have c11_fp : ¬ ((k : Int) < (L.length : Int)) := of_decide_eq_false c11_f
    refine C_exit (X_thenX (X_thenX (X_blkHit ?_)))
    refine (X_then (hK3_ _ _ ?_))
    clear hK3_
    refine C_seq (fun K137_ hK137_ => ?_)
    refine C_reg ?_
    refine S_list (T_val (v := v1) (x_move rfl) ?_)
    refine S_list (T_val (v := v1) (x_assign rfl) ?_)
    refine wpList_nil ?_
    refine (X_then (hK137_ _ _ ?_))
    clear hK137_
    refine C_ret ?_
    refine R_any (v := v1) (run_results1 rfl rfl) ?_
    have H138_ : Holds w6_ (ro R1 :: sl 166 4 v1 (List.length zs) (zs.flatMap ZR.cells) :: F) := (Holds.bring (Holds.bring H7_ 0 rfl) 1 rfl)
    exact ⟨R1, _, [sl 166 4 v1 (List.length zs) (zs.flatMap ZR.cells)], rfl, hsR1, ⟨v1, zs, rfl, rfl, (by rw [List.take_of_length_le (by omega)] at hz; exact hz)⟩, S8_, H138_⟩
end Go.Proofs.Ytgeggiebefonhaa
