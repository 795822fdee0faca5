/- Words, and proved steps, on which the proof leans. -/
import Derived.Test.YtlnihndjepjagaaGreatEc5
set_option linter.unusedVariables false
set_option linter.unusedSimpArgs false
namespace Go.Proofs.YtlnihndjepjagaaGreat
open Go Go.RowKit Gw Tryz
open Go.Value renaming int → vI, bool → vB, slice → vS, pointer → vP, agg → vA, tuple → vT

set_option maxHeartbeats 1600000 in
theorem hRowsIn (R : HP) (v : Value) (L : List RW) (hL : RS R 9 v L.length (L.flatMap RW.cells)) (q1 : L.length ≤ 1000) (hS : ∀ x ∈ L, x.kV_Key.size ≤ 100 ∧ x.kV_Value.size ≤ 100) :
    TriG Tryz.prog 31 #[v] R [] (fun R' v__ post__ => ∃ (v' : Value) (zs : List ZR), v__ = v' ∧ post__ = [sl 129 4 v' (List.length zs) (zs.flatMap ZR.cells)] ∧ (ZipR R' zs L)) := by
 refine TriG.into (n := 34) (al := [v]) func31 rfl ntmps31 rfl rfl fun w F H => ?_
 refine cR fun _ hK1_ => ?_
 refine sv (v := (vS none 0 0)) (x_assign rfl) ?_
 refine wn (hK1_ _ _ ?_)
 refine cR fun _ hK2_ => ?_
 refine sv (v := (vS none 0 0)) (x_assign rfl) ?_
 refine wn (hK2_ _ _ ?_)
 refine C_seq (fun _ hK3_ => ?_)
 refine cR fun _ hK4_ => ?_
 refine sv (v := (vI .i64 0)) (x_assign rfl) ?_
 refine wn (hK4_ _ _ ?_)
 refine C_block ?_
 have H5_ : Holds w (sl 129 4 (vS none 0 0) (List.length ([] : List ZR)) (([] : List ZR).flatMap ZR.cells) :: ro R :: F) := Holds.add_nil H 129 4
 refine C_loop (γ := HP × Nat × Value × (List ZR)) (fun x__ a__ w1__ => match x__ with | ⟨R1, k, v1, zs⟩ => ∃ h : Env, a__ = mkA 34 (upd (upd (upd (upd h 0 v) 2 (vS none 0 0)) 3 v1) 4 (vI .i64 (k : Int))) [] ∧ Holds w1__ (sl 129 4 v1 (List.length zs) (zs.flatMap ZR.cells) :: ro R1 :: F) ∧ Same w w1__ ∧ (Sub R R1) ∧ (k ≤ L.length) ∧ (ZipR R1 zs (List.take k L))) (fun x__ => match x__ with | ⟨R1, k, v1, zs⟩ => L.length - k) (⟨R, 0, (vS none 0 0), ([] : List ZR)⟩) ⟨_, congrArg (fun e => mkA 34 e []) (ch (ch (ch (ch rfl rfl) rfl) (rfl : (vS none 0 0) = ((vS none 0 0)))) (congrArg (vI .i64) ((by first | rfl | omega | (simp; done) | (simp; omega)) : 0 = (0 : Int)))), H5_, (Same.refl w), (Sub.rfl' _), (by first | assumption | omega | exact rfl), (⟨rfl, fun i x h => by simp at h⟩)⟩ ?_
 rintro ⟨R1, k, v1, zs⟩ _ w6_ ⟨h, rfl, H7_, S8_, hsR1, hk, hz⟩
 refine C_seq (fun _ hK9_ => ?_)
 refine cR fun _ hK10_ => ?_
 refine sm (vI .i64 (k : Int)) ?_
 refine sv (v := v) (x_move rfl) ?_
 refine sv (v := (vI .i64 (L.length : Int))) (x_lenRS rfl (RS.mono hL hsR1) underlying47) ?_
 refine sv (v := (vB (decide ((k : Int) < (L.length : Int))))) (x_bin rfl rfl rfl) ?_
 refine wn (hK10_ _ _ ?_)
 refine C_cond (b := decide ((k : Int) < (L.length : Int))) rfl (fun c11_t => ?_) (fun c11_f => ?_)
 ·have c11_tp : (k : Int) < (L.length : Int) := of_decide_eq_true c11_t
  refine C_skip (X_then (hK9_ _ _ ?_))
  refine C_seq (fun _ hK12_ => ?_)
  refine C_block ?_
  refine A_start (S := fun w => Sub R1 (hp w)) (N := 23) foll rfl rfl ?_
  have H13_ := Holds.drew_ H7_
  have hq14_ := ((Holds.ro_at H13_ 1 rfl))
  refine A_tk 0 (v := v1) rfl (by kernel_rfl) (fun w hS => x_move rfl) hq14_ ?_
  refine A_tk 1 (v := v) rfl (by kernel_rfl) (fun w hS => x_move rfl) hq14_ ?_
  refine A_tk 2 (v := (vI .i64 (k : Int))) rfl (by kernel_rfl) (fun w hS => x_move rfl) hq14_ ?_
  obtain ⟨x15_, hx16_, hm17_⟩ := elem_at L k (by omega)
  have hp18_ := hS x15_ hm17_
  have := hS x15_ hm17_
  refine A_tk 3 (v := (vP (some ⟨(sb v), so v + (k * 9 + 0), none⟩))) rfl (by kernel_rfl) (fun w hS => x_idxRS (v := v) rfl (RS.mono hL hsR1) rfl underlying47 z70 (by omega) (by omega) (by omega : _ = k) rfl) hq14_ ?_
  refine A_tk 4 (v := (vP (some ⟨(sb v), so v + (k * 9 + 0), none⟩))) rfl (by kernel_rfl) (fun w hS => by kernel_rfl) hq14_ ?_
  refine A_tk 5 (v := (vA #[(vI .i64 x15_.rev_Main), (vI .i64 x15_.rev_Sub)])) rfl (by kernel_rfl) (fun w hS => x_loadN (vs := [(vI .i64 x15_.rev_Main), (vI .i64 x15_.rev_Sub)]) rfl underlying68 rfl z68 rfl (RC.cells (RS.rc (RS.mono hL hsR1)) hS (k * 9 + 0) (fm_cells RW.len hx16_ (i := 0) rfl))) hq14_ ?_
  refine A_tk 7 (v := v) rfl (by kernel_rfl) (fun w hS => x_move rfl) hq14_ ?_
  refine A_tk 8 (v := (vI .i64 (k : Int))) rfl (by kernel_rfl) (fun w hS => x_move rfl) hq14_ ?_
  refine A_tk 9 (v := (vP (some ⟨(sb v), so v + (k * 9 + 0), none⟩))) rfl (by kernel_rfl) (fun w hS => x_idxRS (v := v) rfl (RS.mono hL hsR1) rfl underlying47 z70 (by omega) (by omega) (by omega : _ = k) rfl) hq14_ ?_
  refine A_tk 10 (v := (vP (some ⟨(sb v), so v + (k * 9 + 2), none⟩))) rfl (by kernel_rfl) (fun w hS => by kernel_rfl) hq14_ ?_
  refine A_tk 11 (v := (vB x15_.gone)) rfl (by kernel_rfl) (fun w hS => x_load1 rfl underlying4 rfl (RC.cell (RS.rc (RS.mono hL hsR1)) hS (j := k * 9 + 2) (u := (vB x15_.gone)) (fm_cell RW.len hx16_ (i := 2) rfl))) hq14_ ?_
  refine A_tk 13 (v := v) rfl (by kernel_rfl) (fun w hS => x_move rfl) hq14_ ?_
  refine A_tk 14 (v := (vI .i64 (k : Int))) rfl (by kernel_rfl) (fun w hS => x_move rfl) hq14_ ?_
  refine A_tk 15 (v := (vP (some ⟨(sb v), so v + (k * 9 + 0), none⟩))) rfl (by kernel_rfl) (fun w hS => x_idxRS (v := v) rfl (RS.mono hL hsR1) rfl underlying47 z70 (by omega) (by omega) (by omega : _ = k) rfl) hq14_ ?_
  refine A_tk 16 (v := (vP (some ⟨(sb v), so v + (k * 9 + 3), none⟩))) rfl (by kernel_rfl) (fun w hS => by kernel_rfl) hq14_ ?_
  refine A_tk 17 (v := (vA #[(Value.string x15_.kV_Key), (Value.string x15_.kV_Value), (vI .i64 x15_.kV_Create), (vI .i64 x15_.kV_Mod), (vI .i64 x15_.kV_Version), (vI .i64 x15_.kV_Lease)])) rfl (by kernel_rfl) (fun w hS => x_loadN (vs := [(Value.string x15_.kV_Key), (Value.string x15_.kV_Value), (vI .i64 x15_.kV_Create), (vI .i64 x15_.kV_Mod), (vI .i64 x15_.kV_Version), (vI .i64 x15_.kV_Lease)]) rfl underlying52 rfl z52 rfl (RC.cells (RS.rc (RS.mono hL hsR1)) hS (k * 9 + 3) (fm_cells RW.len hx16_ (i := 3) rfl))) hq14_ ?_
  refine A_ready (i := 6) (rs := []) (by kernel_rfl) ?_
  refine AllR.cons ?_ AllR.nil
  refine A_op (ls' := #[true, true, true, true, true, true, true, true, true, true, true, true, false, true, true, true, true, true, false, false, false, false, false]) rfl (by kernel_rfl) (T_callW (al := [(vA #[(vI .i64 x15_.rev_Main), (vI .i64 x15_.rev_Sub)])]) rfl rfl cb59 (Calls.into (n := 8) func59 rfl ntmps59 rfl rfl ?_))
  refine cR fun _ hK19_ => ?_
  refine S_list (T_box (v := (vA #[(vI .i64 x15_.rev_Main), (vI .i64 x15_.rev_Sub)])) rfl H13_ ?_)
  intro b20_ w21_ S23_ H22_
  have S24_ := Same.trans (Same.trans S8_ (Same.drew _)) S23_
  refine S_list (T_alloc z121 H22_ ?_)
  intro b25_ w26_ S28_ H27_
  have S29_ := Same.trans S24_ S28_
  refine wn (hK19_ _ _ ?_)
  refine cR fun _ hK30_ => ?_
  refine sv (v := (vP (some ⟨b20_, 0, none⟩))) (by kernel_rfl) ?_
  refine sv (v := (vI .i64 x15_.rev_Main)) (x_load1 rfl underlying2 rfl ((Holds.rd H27_ 1 rfl) 0 (vI .i64 x15_.rev_Main) rfl)) ?_
  refine sv (v := (vP (some ⟨b20_, 1, none⟩))) (by kernel_rfl) ?_
  refine sv (v := (vI .i64 x15_.rev_Sub)) (x_load1 rfl underlying2 rfl ((Holds.rd H27_ 1 rfl) 1 (vI .i64 x15_.rev_Sub) rfl)) ?_
  refine sv (v := (vA #[(vI .i64 x15_.rev_Main), (vI .i64 x15_.rev_Sub)])) (by kernel_rfl) ?_
  refine S_list0 (T_storeN (vs := [(vI .i64 x15_.rev_Main), (vI .i64 x15_.rev_Sub)]) rfl rfl z121 rfl (by simp [Value.oneCell']) H27_ 0 rfl (Nat.le_of_ble_eq_true (by rfl)) ?_)
  intro w31_ S33_ H32_
  have S34_ := Same.trans S29_ S33_
  refine wn (hK30_ _ _ ?_)
  refine C_ret ?_
  refine R_any (v := (vA #[(vI .i64 x15_.rev_Main), (vI .i64 x15_.rev_Sub)])) (run_results1 rfl ⟨_, rfl, load_resN underlying121 rfl z121 rfl (vs := [(vI .i64 x15_.rev_Main), (vI .i64 x15_.rev_Sub)]) (Holds.cl_cells H32_ 0 rfl 0 rfl)⟩) ⟨_, rfl, ?_⟩
  refine ⟨((Holds.ro_at H32_ 3 rfl)), ?_⟩
  refine A_ready (i := 12) (rs := []) (by kernel_rfl) ?_
  refine AllR.cons ?_ AllR.nil
  refine A_op (ls' := #[true, true, true, true, true, true, true, true, true, true, true, true, true, true, true, true, true, true, false, false, false, false, false]) rfl (by kernel_rfl) (T_callW (al := [(vA #[(vI .i64 x15_.rev_Main), (vI .i64 x15_.rev_Sub)]), (vB x15_.gone)]) rfl rfl cb58 (Calls.into (n := 11) func58 rfl ntmps58 rfl rfl ?_))
  refine cR fun _ hK35_ => ?_
  refine S_list (T_box (v := (vA #[(vI .i64 x15_.rev_Main), (vI .i64 x15_.rev_Sub)])) rfl H32_ ?_)
  intro b36_ w37_ S39_ H38_
  have S40_ := Same.trans S34_ S39_
  refine S_list (T_alloc z123 H38_ ?_)
  intro b41_ w42_ S44_ H43_
  have S45_ := Same.trans S40_ S44_
  refine wn (hK35_ _ _ ?_)
  refine cR fun _ hK46_ => ?_
  refine sv (v := (vP (some ⟨b36_, 0, none⟩))) (by kernel_rfl) ?_
  refine sv (v := (vI .i64 x15_.rev_Main)) (x_load1 rfl underlying2 rfl ((Holds.rd H43_ 1 rfl) 0 (vI .i64 x15_.rev_Main) rfl)) ?_
  refine sv (v := (vP (some ⟨b36_, 1, none⟩))) (by kernel_rfl) ?_
  refine sv (v := (vI .i64 x15_.rev_Sub)) (x_load1 rfl underlying2 rfl ((Holds.rd H43_ 1 rfl) 1 (vI .i64 x15_.rev_Sub) rfl)) ?_
  refine sm (vB x15_.gone) ?_
  refine S_list (T_callW (al := [(vI .i64 x15_.rev_Main), (vI .i64 x15_.rev_Sub), (vB x15_.gone)]) rfl rfl cb80 (Calls.into (n := 12) func80 rfl ntmps80 rfl rfl ?_))
  refine cR fun _ hK47_ => ?_
  refine S_list (T_alloc z123 H43_ ?_)
  intro b48_ w49_ S51_ H50_
  have S52_ := Same.trans S45_ S51_
  refine wn (hK47_ _ _ ?_)
  refine cR fun _ hK53_ => ?_
  refine sm (vI .i64 x15_.rev_Main) ?_
  refine sm (vI .i64 x15_.rev_Sub) ?_
  refine sv (v := (vA #[(vI .i64 x15_.rev_Main), (vI .i64 x15_.rev_Sub)])) (by kernel_rfl) ?_
  refine sm (vB x15_.gone) ?_
  refine sv (v := (vA #[(vI .i64 x15_.rev_Main), (vI .i64 x15_.rev_Sub), (vB x15_.gone)])) (by kernel_rfl) ?_
  refine S_list0 (T_storeN (vs := [(vI .i64 x15_.rev_Main), (vI .i64 x15_.rev_Sub), (vB x15_.gone)]) rfl rfl z123 rfl (by simp [Value.oneCell']) H50_ 0 rfl (Nat.le_of_ble_eq_true (by rfl)) ?_)
  intro w54_ S56_ H55_
  have S57_ := Same.trans S52_ S56_
  refine wn (hK53_ _ _ ?_)
  refine C_ret ?_
  refine R_any (v := (vA #[(vI .i64 x15_.rev_Main), (vI .i64 x15_.rev_Sub), (vB x15_.gone)])) (run_results1 rfl ⟨_, rfl, load_resN underlying123 rfl z123 rfl (vs := [(vI .i64 x15_.rev_Main), (vI .i64 x15_.rev_Sub), (vB x15_.gone)]) (Holds.cl_cells H55_ 0 rfl 0 rfl)⟩) ⟨_, rfl, ?_⟩
  refine S_list0 (T_storeN (vs := [(vI .i64 x15_.rev_Main), (vI .i64 x15_.rev_Sub), (vB x15_.gone)]) rfl rfl z123 rfl (by simp [Value.oneCell']) H55_ 1 rfl (Nat.le_of_ble_eq_true (by rfl)) ?_)
  intro w58_ S60_ H59_
  have S61_ := Same.trans S57_ S60_
  refine wn (hK46_ _ _ ?_)
  refine C_ret ?_
  refine R_any (v := (vA #[(vI .i64 x15_.rev_Main), (vI .i64 x15_.rev_Sub), (vB x15_.gone)])) (run_results1 rfl ⟨_, rfl, load_resN underlying123 rfl z123 rfl (vs := [(vI .i64 x15_.rev_Main), (vI .i64 x15_.rev_Sub), (vB x15_.gone)]) (Holds.cl_cells H59_ 1 rfl 0 rfl)⟩) ⟨_, rfl, ?_⟩
  refine ⟨((Holds.ro_at H59_ 6 rfl)), ?_⟩
  refine A_ready (i := 18) (rs := []) (by kernel_rfl) ?_
  refine AllR.cons ?_ AllR.nil
  refine A_op (ls' := #[true, true, true, true, true, true, true, true, true, true, true, true, true, true, true, true, true, true, true, false, false, false, false]) rfl (by kernel_rfl) (T_callW (al := [(vA #[(Value.string x15_.kV_Key), (Value.string x15_.kV_Value), (vI .i64 x15_.kV_Create), (vI .i64 x15_.kV_Mod), (vI .i64 x15_.kV_Version), (vI .i64 x15_.kV_Lease)])]) rfl rfl cb60 (Calls.into (n := 19) func60 rfl ntmps60 rfl rfl ?_))
  refine cR fun _ hK62_ => ?_
  refine S_list (T_box (v := (vA #[(Value.string x15_.kV_Key), (Value.string x15_.kV_Value), (vI .i64 x15_.kV_Create), (vI .i64 x15_.kV_Mod), (vI .i64 x15_.kV_Version), (vI .i64 x15_.kV_Lease)])) rfl H59_ ?_)
  intro b63_ w64_ S66_ H65_
  have S67_ := Same.trans S61_ S66_
  refine sv (v := (vP none)) (x_assign rfl) ?_
  refine wn (hK62_ _ _ ?_)
  refine cR fun _ hK68_ => ?_
  refine sv (v := (vP (some ⟨b63_, 0, none⟩))) (by kernel_rfl) ?_
  refine sv (v := (Value.string x15_.kV_Key)) (x_load1 rfl underlying9 rfl ((Holds.rd H65_ 0 rfl) 0 (Value.string x15_.kV_Key) rfl)) ?_
  refine S_list (T_s2b rfl underlying9 underlying101 underlying5 H65_ ?_)
  intro b69_ cp70_ w71_ S73_ hc74_ H72_
  have S75_ := Same.trans S67_ S73_
  have H76_ := Holds.resl H72_ 0 rfl (byteCells_bytesV _ : byteCells x15_.kV_Key = bytesV (ints x15_.kV_Key)) rfl
  have H77_ := Holds.resl H76_ 0 rfl (rfl : bytesV (ints x15_.kV_Key) = bytesV (ints x15_.kV_Key)) ((ints_length _).symm : x15_.kV_Key.size = (List.length (ints x15_.kV_Key)))
  refine sv (v := (vP (some ⟨b63_, 1, none⟩))) (by kernel_rfl) ?_
  refine sv (v := (Value.string x15_.kV_Value)) (x_load1 rfl underlying9 rfl ((Holds.rd H77_ 1 rfl) 1 (Value.string x15_.kV_Value) rfl)) ?_
  refine S_list (T_s2b rfl underlying9 underlying101 underlying5 H77_ ?_)
  intro b78_ cp79_ w80_ S82_ hc83_ H81_
  have S84_ := Same.trans S75_ S82_
  have H85_ := Holds.resl H81_ 0 rfl (byteCells_bytesV _ : byteCells x15_.kV_Value = bytesV (ints x15_.kV_Value)) rfl
  have H86_ := Holds.resl H85_ 0 rfl (rfl : bytesV (ints x15_.kV_Value) = bytesV (ints x15_.kV_Value)) ((ints_length _).symm : x15_.kV_Value.size = (List.length (ints x15_.kV_Value)))
  refine sv (v := (vP (some ⟨b63_, 2, none⟩))) (by kernel_rfl) ?_
  refine sv (v := (vI .i64 x15_.kV_Create)) (x_load1 rfl underlying2 rfl ((Holds.rd H86_ 2 rfl) 2 (vI .i64 x15_.kV_Create) rfl)) ?_
  refine sv (v := (vP (some ⟨b63_, 3, none⟩))) (by kernel_rfl) ?_
  refine sv (v := (vI .i64 x15_.kV_Mod)) (x_load1 rfl underlying2 rfl ((Holds.rd H86_ 2 rfl) 3 (vI .i64 x15_.kV_Mod) rfl)) ?_
  refine sv (v := (vP (some ⟨b63_, 4, none⟩))) (by kernel_rfl) ?_
  refine sv (v := (vI .i64 x15_.kV_Version)) (x_load1 rfl underlying2 rfl ((Holds.rd H86_ 2 rfl) 4 (vI .i64 x15_.kV_Version) rfl)) ?_
  refine sv (v := (vP (some ⟨b63_, 5, none⟩))) (by kernel_rfl) ?_
  refine sv (v := (vI .i64 x15_.kV_Lease)) (x_load1 rfl underlying2 rfl ((Holds.rd H86_ 2 rfl) 5 (vI .i64 x15_.kV_Lease) rfl)) ?_
  refine sv (v := (vA #[(vS (some ⟨b69_, 0, none⟩) x15_.kV_Key.size cp70_), (vI .i64 x15_.kV_Create), (vI .i64 x15_.kV_Mod), (vI .i64 x15_.kV_Version), (vS (some ⟨b78_, 0, none⟩) x15_.kV_Value.size cp79_), (vI .i64 x15_.kV_Lease)])) (by kernel_rfl) ?_
  refine S_list (T_box (v := (vA #[(vS (some ⟨b69_, 0, none⟩) x15_.kV_Key.size cp70_), (vI .i64 x15_.kV_Create), (vI .i64 x15_.kV_Mod), (vI .i64 x15_.kV_Version), (vS (some ⟨b78_, 0, none⟩) x15_.kV_Value.size cp79_), (vI .i64 x15_.kV_Lease)])) rfl H86_ ?_)
  intro b87_ w88_ S90_ H89_
  have S91_ := Same.trans S84_ S90_
  refine sv (v := (vP (some ⟨b87_, 0, none⟩))) (x_assign rfl) ?_
  refine wn (hK68_ _ _ ?_)
  refine C_ret ?_
  refine R_any (v := (vP (some ⟨b87_, 0, none⟩))) (run_results1 rfl rfl) ⟨_, rfl, ?_⟩
  refine ⟨((Holds.ro_at H89_ 10 rfl)), ?_⟩
  have hq92_ := ((Holds.ro_at H89_ 10 rfl))
  refine A_tk 19 (v := (vA #[(vI .i64 x15_.rev_Main), (vI .i64 x15_.rev_Sub), (vB x15_.gone), (vP (some ⟨b87_, 0, none⟩))])) rfl (by kernel_rfl) (fun w hS => by kernel_rfl) hq92_ ?_
  refine A_ready (i := 20) (rs := []) (by kernel_rfl) ?_
  refine AllR.cons ?_ AllR.nil
  refine A_op (ls' := #[true, true, true, true, true, true, true, true, true, true, true, true, true, true, true, true, true, true, true, true, true, false, false]) rfl (by kernel_rfl) (T_new (obj := .cells #[(vI .i64 x15_.rev_Main), (vI .i64 x15_.rev_Sub), (vB x15_.gone), (vP (some ⟨b87_, 0, none⟩))] 129) (f := fun b__ => .slice (some ⟨b__, 0, none⟩) 1 1) (A := fun b__ => cl b__ 129 [(vI .i64 x15_.rev_Main), (vI .i64 x15_.rev_Sub), (vB x15_.gone), (vP (some ⟨b87_, 0, none⟩))]) (by kernel_rfl) (fun l h => h.alloc _ _) H89_ ?_)
  intro b93_ w94_ S96_ H95_
  have S97_ := Same.trans S91_ S96_
  refine ⟨((Holds.ro_at H95_ 11 rfl)), ?_⟩
  refine A_ready (i := 21) (rs := []) (by kernel_rfl) ?_
  refine AllR.cons ?_ AllR.nil
  refine A_op (ls' := #[true, true, true, true, true, true, true, true, true, true, true, true, true, true, true, true, true, true, true, true, true, true, false]) rfl (by kernel_rfl) (T_append rfl rfl underlying75 z129 rfl (by decide) H95_ 10 rfl (Holds.cl_src H95_ 0 rfl underlying75 (by simp [Value.oneCell']) rfl) (by have := hz.1; rw [List.length_take] at this; omega) ?_)
  intro v98_ w99_ S101_ H100_
  have S102_ := Same.trans S97_ S101_
  refine ⟨((Holds.ro_at H100_ 11 rfl)), ?_⟩
  have hq103_ := ((Holds.ro_at H100_ 11 rfl))
  refine A_tk 22 (v := v98_) rfl (by kernel_rfl) (fun w hS => x_assign rfl) hq103_ ?_
  refine A_done (by kernel_rfl) ?_
  refine (X_blkN (X_then (hK12_ _ _ ?_)))
  refine C_reg ?_
  refine sm (vI .i64 (k : Int)) ?_
  refine sv (v := (vI .i64 ((k : Int) + 1))) (x_bin rfl rfl (ib_add (IntWalk.i64_in _ (by omega)))) ?_
  refine sv (v := (vI .i64 ((k : Int) + 1))) (x_assign rfl) ?_
  refine wpList_nil (X_then ?_)
  have H104_ := ((Holds.bring (Holds.bring H100_ 3 rfl) 11 rfl) :)
  obtain ⟨R105_, hs106_, ⟨R107_, ha108_, hs109_⟩, H110_⟩ := Holds.gift H104_
  have hz_R_R105_ := Sub.trans' hsR1 hs106_
  have hr111_ : RS R105_ 1 (vS (some ⟨b69_, 0, none⟩) x15_.kV_Key.size cp70_) (List.length (ints x15_.kV_Key)) (bytesV (ints x15_.kV_Key)) := (sl_RS ha108_ (Sub.rfl' _)).mono hs109_
  have H112_ := ((Holds.bring (Holds.bring H110_ 3 rfl) 1 rfl) :)
  obtain ⟨R113_, hs114_, ⟨R115_, ha116_, hs117_⟩, H118_⟩ := Holds.gift H112_
  have hz_R_R113_ := Sub.trans' hz_R_R105_ hs114_
  have hz_R1_R113_ := Sub.trans' hs106_ hs114_
  have hr119_ : RS R113_ 1 (vS (some ⟨b78_, 0, none⟩) x15_.kV_Value.size cp79_) (List.length (ints x15_.kV_Value)) (bytesV (ints x15_.kV_Value)) := (sl_RS ha116_ (Sub.rfl' _)).mono hs117_
  have H120_ := ((Holds.bring (Holds.bring H118_ 2 rfl) 1 rfl) :)
  obtain ⟨R121_, hs122_, ⟨R123_, ha124_, hs125_⟩, H126_⟩ := Holds.gift H120_
  have hz_R_R121_ := Sub.trans' hz_R_R113_ hs122_
  have hz_R1_R121_ := Sub.trans' hz_R1_R113_ hs122_
  have hz_R105__R121_ := Sub.trans' hs114_ hs122_
  have hr127_ : RC R121_ b87_ 0 [(vS (some ⟨b69_, 0, none⟩) x15_.kV_Key.size cp70_), (vI .i64 x15_.kV_Create), (vI .i64 x15_.kV_Mod), (vI .i64 x15_.kV_Version), (vS (some ⟨b78_, 0, none⟩) x15_.kV_Value.size cp79_), (vI .i64 x15_.kV_Lease)] := (cl_RC ha124_ (Sub.rfl' _)).mono hs125_
  have hkv128_ : KVat R121_ b87_ (vS (some ⟨b69_, 0, none⟩) x15_.kV_Key.size cp70_) (vS (some ⟨b78_, 0, none⟩) x15_.kV_Value.size cp79_) x15_ := ⟨hr127_, (RS.mono hr111_ hz_R105__R121_), (RS.mono hr119_ hs122_)⟩
  have H129_ := Holds.resl H126_ 8 rfl ((by simp [ZRof, ZR.cells]) : (zs.flatMap ZR.cells) ++ [(vI .i64 x15_.rev_Main), (vI .i64 x15_.rev_Sub), (vB x15_.gone), (vP (some ⟨b87_, 0, none⟩))] = (zs ++ [ZRof x15_ b87_]).flatMap ZR.cells) ((by simp [ZRof, ZR.cells]) : (List.length zs) + 1 = (List.length (zs ++ [ZRof x15_ b87_])))
  have H130_ := Holds.pkF H129_ [8, 0] 7
  exact ⟨⟨R121_, k + 1, v98_, zs ++ [ZRof x15_ b87_]⟩, ⟨_, congrArg (fun e => mkA 34 e []) (ch (ch (ch (ch rfl rfl) rfl) rfl) (congrArg (vI .i64) ((by first | rfl | omega | (simp; done) | (simp; omega)) : (k : Int) + 1 = ((k + 1 : Nat) : Int)))), H130_, S102_, (hz_R_R121_), (by first | assumption | omega | exact rfl), (ZipR.next hz hz_R1_R121_ hx16_ hkv128_)⟩, by first | omega | (dsimp only; omega) | (simp; omega)⟩
 ·have c11_fp : ¬ ((k : Int) < (L.length : Int)) := of_decide_eq_false c11_f
  refine C_exit (X_thenX (X_thenX (X_blkHit ?_)))
  refine (X_then (hK3_ _ _ ?_))
  refine cR fun _ hK131_ => ?_
  refine sv (v := v1) (x_move rfl) ?_
  refine sv (v := v1) (x_assign rfl) ?_
  refine wn (hK131_ _ _ ?_)
  refine C_ret ?_
  refine R_any (v := v1) (run_results1 rfl rfl) ?_
  have H132_ := Holds.pkF H7_ [1, 0] 0
  exact ⟨R1, _, _, rfl, hsR1, ⟨v1, zs, rfl, rfl, (by rw [List.take_of_length_le (by omega)] at hz; exact hz)⟩, S8_, H132_⟩
end Go.Proofs.YtlnihndjepjagaaGreat
set_option linter.unusedVariables false
set_option linter.unusedSimpArgs false
namespace Go.Proofs.YtlnihndjepjagaaGreat
open Go Go.RowKit Gw Tryz
open Go.Value renaming int → vI, bool → vB, slice → vS, pointer → vP, agg → vA, tuple → vT

theorem ZipR.at_ {R : HP} {zs : List ZR} {l : List RW} {k : Nat} (h : ZipR R zs l) (hk : k < zs.length) : ∃ x b kv vv, l[k]? = some x ∧ zs[k]? = some (ZRof x b) ∧ KVat R b kv vv x := by
  have hl : k < l.length := by rw [← h.1]; exact hk
  obtain ⟨b, kv, vv, h1, h2⟩ := h.2 k l[k] (List.getElem?_eq_getElem hl)
  exact ⟨_, b, kv, vv, List.getElem?_eq_getElem hl, h1, h2⟩

set_option maxHeartbeats 1600000 in
theorem hRows (R : HP) (v : Value) (zs : List ZR) (L : List RW) (hZs : RS R 4 v zs.length (zs.flatMap ZR.cells)) (hZ : ZipR R zs L) (hl : zs.length ≤ 1000) (hS : ∀ x ∈ L, x.kV_Key.size ≤ 100 ∧ x.kV_Value.size ≤ 100) :
    TriG Tryz.prog 56 #[v] R [] (fun R' v__ post__ => ∃ (v1 v2 : Value) (ks vs : List Value), v__ = (vT #[v1, v2]) ∧ post__ = [sl 101 1 v1 (List.length ks) ks, sl 101 1 v2 (List.length vs) vs] ∧ (Bts R' ks (L.map RW.kb)) ∧ (Bts R' vs (L.map RW.vb))) := by
 refine TriG.into (n := 37) (al := [v]) func56 rfl ntmps56 rfl rfl fun w F H => ?_
 refine cR fun _ hK1_ => ?_
 refine sv (v := (vS none 0 0)) (x_assign rfl) ?_
 refine sv (v := (vS none 0 0)) (x_assign rfl) ?_
 refine wn (hK1_ _ _ ?_)
 refine cR fun _ hK2_ => ?_
 refine sv (v := (vS none 0 0)) (x_assign rfl) ?_
 refine sv (v := (vS none 0 0)) (x_assign rfl) ?_
 refine wn (hK2_ _ _ ?_)
 refine C_seq (fun _ hK3_ => ?_)
 refine cR fun _ hK4_ => ?_
 refine sv (v := v) (x_move rfl) ?_
 refine sv (v := (vI .i64 (zs.length : Int))) (x_lenRS rfl hZs underlying75) ?_
 refine sm (vI .i64 0) ?_
 refine wn (hK4_ _ _ ?_)
 refine C_block ?_
 have H5_ : Holds w (sl 101 1 (vS none 0 0) (List.length ([] : List Value)) ([] : List Value) :: ro R :: F) := Holds.add_nil H 101 1
 have H6_ : Holds w (sl 101 1 (vS none 0 0) (List.length ([] : List Value)) ([] : List Value) :: sl 101 1 (vS none 0 0) (List.length ([] : List Value)) ([] : List Value) :: ro R :: F) := Holds.add_nil H5_ 101 1
 refine C_loop (γ := HP × Nat × Value × Value × (List Value) × (List Value)) (fun x__ a__ w1__ => match x__ with | ⟨R1, k, v1, v2, ks, vs⟩ => ∃ h : Env, a__ = mkA 37 (upd (upd (upd (upd (upd (upd (upd h 2 (vS none 0 0)) 3 (vS none 0 0)) 4 v1) 5 v2) 10 v) 11 (vI .i64 (zs.length : Int))) 12 (vI .i64 (k : Int))) [] ∧ Holds w1__ (sl 101 1 v1 (List.length ks) ks :: sl 101 1 v2 (List.length vs) vs :: ro R1 :: F) ∧ Same w w1__ ∧ (Sub R R1) ∧ (k ≤ zs.length) ∧ (Bts R1 ks ((List.take k L).map RW.kb)) ∧ (Bts R1 vs ((List.take k L).map RW.vb))) (fun x__ => match x__ with | ⟨R1, k, v1, v2, ks, vs⟩ => zs.length - k) (⟨R, 0, (vS none 0 0), (vS none 0 0), ([] : List Value), ([] : List Value)⟩) ⟨_, congrArg (fun e => mkA 37 e []) (ch (ch (ch (ch (ch (ch (ch rfl rfl) rfl) (rfl : (vS none 0 0) = ((vS none 0 0)))) (rfl : (vS none 0 0) = ((vS none 0 0)))) rfl) rfl) (congrArg (vI .i64) ((by first | rfl | omega | (simp; done) | (simp; omega)) : 0 = (0 : Int)))), H6_, (Same.refl w), (Sub.rfl' _), (by first | assumption | omega | exact rfl), (Bts.nil _), (Bts.nil _)⟩ ?_
 rintro ⟨R1, k, v1, v2, ks, vs⟩ _ w7_ ⟨h, rfl, H8_, S9_, hsR1, hk, h1, h2⟩
 refine cR fun _ hK10_ => ?_
 refine sv (v := (vB (decide ((k : Int) < (zs.length : Int))))) (x_bin rfl rfl rfl) ?_
 refine wn (hK10_ _ _ ?_)
 refine C_seq (fun _ hK11_ => ?_)
 refine C_cond (b := decide ((k : Int) < (zs.length : Int))) rfl (fun c12_t => ?_) (fun c12_f => ?_)
 ·have c12_tp : (k : Int) < (zs.length : Int) := of_decide_eq_true c12_t
  refine C_skip (X_then (hK11_ _ _ ?_))
  refine C_seq (fun _ hK13_ => ?_)
  refine C_block ?_
  refine cR fun _ hK14_ => ?_
  obtain ⟨x15_, b16_, kv17_, vv18_, hx19_, hz20_, hkv21_⟩ := ZipR.at_ hZ (by omega : k < zs.length)
  have := hS x15_ (List.mem_of_getElem? hx19_)
  refine sv (v := (vP (some ⟨(sb v), so v + (k * 4 + 0), none⟩))) (x_idxRS (v := v) rfl (RS.mono hZs hsR1) rfl underlying75 z129 (by omega) (by omega) (by omega : _ = k) rfl) ?_
  refine sv (v := (vA #[(vI .i64 x15_.rev_Main), (vI .i64 x15_.rev_Sub), (vB x15_.gone), (vP (some ⟨b16_, 0, none⟩))])) (x_loadN (vs := [(vI .i64 x15_.rev_Main), (vI .i64 x15_.rev_Sub), (vB x15_.gone), (vP (some ⟨b16_, 0, none⟩))]) rfl underlying129 rfl z129 rfl (RC.cells (RS.rc (RS.mono hZs hsR1)) (Holds.ro_at H8_ 2 rfl) (k * 4 + 0) (fm_cells ZR.len hz20_ (i := 0) rfl))) ?_
  refine S_list (T_alloc z129 H8_ ?_)
  intro b22_ w23_ S25_ H24_
  have S26_ := Same.trans S9_ S25_
  refine S_list0 (T_storeN (vs := [(vI .i64 x15_.rev_Main), (vI .i64 x15_.rev_Sub), (vB x15_.gone), (vP (some ⟨b16_, 0, none⟩))]) rfl rfl z129 rfl (by simp [Value.oneCell']) H24_ 0 rfl (Nat.le_of_ble_eq_true (by rfl)) ?_)
  intro w27_ S29_ H28_
  have S30_ := Same.trans S26_ S29_
  refine wn (hK14_ _ _ ?_)
  refine cR fun _ hK31_ => ?_
  refine sv (v := (vP (some ⟨b22_, 3, none⟩))) (by kernel_rfl) ?_
  refine sv (v := (vP (some ⟨b16_, 0, none⟩))) (x_load1 rfl underlying126 rfl ((Holds.rd H28_ 0 rfl) 3 (vP (some ⟨b16_, 0, none⟩)) rfl)) ?_
  refine sv (v := (Value.iface 126 (vP (some ⟨b16_, 0, none⟩)))) (by kernel_rfl) ?_
  refine S_list (T_callW (al := [(Value.iface 126 (vP (some ⟨b16_, 0, none⟩)))]) rfl rfl cb74 (Calls.into (n := 6) func74 rfl ntmps74 rfl rfl ?_))
  refine cR fun _ hK32_ => ?_
  refine sv (v := (vS none 0 0)) (x_assign rfl) ?_
  refine sv (v := (Value.nilIface)) (x_assign rfl) ?_
  refine wn (hK32_ _ _ ?_)
  refine cR fun _ hK33_ => ?_
  refine sm (Value.iface 126 (vP (some ⟨b16_, 0, none⟩))) ?_
  have H35_ := ((Holds.bring H28_ 3 rfl) :)
  refine S_list (T_invoke (al := [(vP (some ⟨b16_, 0, none⟩))]) (pre := []) rfl (fun w => by kernel_rfl) rfl cb140 (hKV R1 b16_ kv17_ vv18_ x15_.ks x15_.vs x15_.kV_Create x15_.kV_Mod x15_.kV_Version x15_.kV_Lease (RC.mono (hkv21_.cells) hsR1) (RS.mono (hkv21_.key) hsR1) (RS.mono (hkv21_.val) hsR1) (by unfold RW.ks; rw [ints_length]; omega) (by unfold RW.vs; rw [ints_length]; omega)) H35_ ?_)
  rintro v34_ p39_ w36_ ⟨_, rfl, rfl⟩ S38_ H37_
  have S40_ := Same.trans S30_ S38_
  obtain ⟨-, a41_, cp42_, rfl, hle43_⟩ := Holds.sl_len H37_ 1 rfl
  refine sv (v := (vS a41_ (List.length (kvb x15_.ks x15_.vs x15_.kV_Create x15_.kV_Mod x15_.kV_Version x15_.kV_Lease)) cp42_)) (x_assign rfl) ?_
  refine sv (v := (Value.nilIface)) (x_assign rfl) ?_
  refine wn (hK33_ _ _ ?_)
  refine C_ret ?_
  refine R_any (v := (vT #[(vS a41_ (List.length (kvb x15_.ks x15_.vs x15_.kV_Create x15_.kV_Mod x15_.kV_Version x15_.kV_Lease)) cp42_), (Value.nilIface)])) (run_results2 rfl rfl rfl) ⟨_, rfl, ?_⟩
  refine sv (v := (vT #[(vS a41_ (List.length (kvb x15_.ks x15_.vs x15_.kV_Create x15_.kV_Mod x15_.kV_Version x15_.kV_Lease)) cp42_), (Value.nilIface)])) (x_move rfl) ?_
  refine sv (v := (vS a41_ (List.length (kvb x15_.ks x15_.vs x15_.kV_Create x15_.kV_Mod x15_.kV_Version x15_.kV_Lease)) cp42_)) (by kernel_rfl) ?_
  refine sv (v := (Value.nilIface)) (by kernel_rfl) ?_
  refine sv (v := (vS a41_ (List.length (kvb x15_.ks x15_.vs x15_.kV_Create x15_.kV_Mod x15_.kV_Version x15_.kV_Lease)) cp42_)) (x_assign rfl) ?_
  refine sv (v := (Value.nilIface)) (x_assign rfl) ?_
  refine wn (hK31_ _ _ ?_)
  refine C_seq (fun _ hK44_ => ?_)
  refine A_start (S := fun w => SlRd (vS a41_ (List.length (kvb x15_.ks x15_.vs x15_.kV_Create x15_.kV_Mod x15_.kV_Version x15_.kV_Lease)) cp42_) (bytesV (kvb x15_.ks x15_.vs x15_.kV_Create x15_.kV_Mod x15_.kV_Version x15_.kV_Lease)) w ∧ Rd b22_ [(vI .i64 x15_.rev_Main), (vI .i64 x15_.rev_Sub), (vB x15_.gone), (vP (some ⟨b16_, 0, none⟩))] w ∧ SlRd v2 vs w ∧ Sub R1 (hp w)) (N := 8) foll rfl rfl ?_
  have H45_ := Holds.drew_ H37_
  have hq46_ := And.intro (Holds.slrd H45_ 1 rfl) (And.intro (Holds.rd H45_ 2 rfl) (And.intro (Holds.slrd H45_ 4 rfl) ((Holds.ro_at H45_ 0 rfl))))
  refine A_tk 0 (v := v1) rfl (by kernel_rfl) (fun w hS => x_move rfl) hq46_ ?_
  refine A_tk 1 (v := (vP (some ⟨b22_, 0, none⟩))) rfl (by kernel_rfl) (fun w hS => by kernel_rfl) hq46_ ?_
  refine A_tk 2 (v := (vA #[(vI .i64 x15_.rev_Main), (vI .i64 x15_.rev_Sub), (vB x15_.gone)])) rfl (by kernel_rfl) (fun w hS => x_loadN (vs := [(vI .i64 x15_.rev_Main), (vI .i64 x15_.rev_Sub), (vB x15_.gone)]) rfl underlying123 rfl z123 rfl (Rd.cells hS.2.1 0 rfl)) hq46_ ?_
  refine A_ready (i := 3) (rs := []) (by kernel_rfl) ?_
  refine AllR.cons ?_ AllR.nil
  refine A_op (ls' := #[true, true, true, true, false, false, false, false]) rfl (by kernel_rfl) (T_callW (al := []) rfl rfl cb76 (Calls.into (n := 2) func76 rfl ntmps76 rfl rfl ?_))
  refine cR fun _ hK47_ => ?_
  refine sv (v := (vS none 0 0)) (x_assign rfl) ?_
  refine wn (hK47_ _ _ ?_)
  refine cR fun _ hK48_ => ?_
  refine S_list (T_makeSlice1 (len := 17) (cap := 18) rfl rfl underlying101 z5 rfl (by omega) (by omega) (by omega) (by omega) (by omega) H45_ ?_)
  intro b49_ w50_ S52_ H51_
  have S53_ := Same.trans (Same.trans S40_ (Same.drew _)) S52_
  refine sv (v := (vS (some ⟨b49_, 0, none⟩) 17 18)) (x_assign rfl) ?_
  refine wn (hK48_ _ _ ?_)
  refine C_ret ?_
  refine R_any (v := (vS (some ⟨b49_, 0, none⟩) 17 18)) (run_results1 rfl rfl) ⟨_, rfl, ?_⟩
  refine ⟨⟨Holds.slrd H51_ 2 rfl, Holds.rd H51_ 3 rfl, Holds.slrd H51_ 5 rfl, (Holds.ro_at H51_ 1 rfl)⟩, ?_⟩
  refine A_ready (i := 4) (rs := []) (by kernel_rfl) ?_
  refine AllR.cons ?_ AllR.nil
  have H54_ : Holds w50_ (cl b49_ 5 [(vI .u8 0), (vI .u8 0), (vI .u8 0), (vI .u8 0), (vI .u8 0), (vI .u8 0), (vI .u8 0), (vI .u8 0), (vI .u8 0), (vI .u8 0), (vI .u8 0), (vI .u8 0), (vI .u8 0), (vI .u8 0), (vI .u8 0), (vI .u8 0), (vI .u8 0), (vI .u8 0)] :: ro R1 :: sl 5 1 (vS a41_ (List.length (kvb x15_.ks x15_.vs x15_.kV_Create x15_.kV_Mod x15_.kV_Version x15_.kV_Lease)) cp42_) (List.length (kvb x15_.ks x15_.vs x15_.kV_Create x15_.kV_Mod x15_.kV_Version x15_.kV_Lease)) (bytesV (kvb x15_.ks x15_.vs x15_.kV_Create x15_.kV_Mod x15_.kV_Version x15_.kV_Lease)) :: cl b22_ 129 [(vI .i64 x15_.rev_Main), (vI .i64 x15_.rev_Sub), (vB x15_.gone), (vP (some ⟨b16_, 0, none⟩))] :: sl 101 1 v1 (List.length ks) ks :: sl 101 1 v2 (List.length vs) vs :: F) := cast1 (P := fun (c__ : List Value) => Holds w50_ (cl b49_ 5 c__ :: ro R1 :: sl 5 1 (vS a41_ (List.length (kvb x15_.ks x15_.vs x15_.kV_Create x15_.kV_Mod x15_.kV_Version x15_.kV_Lease)) cp42_) (List.length (kvb x15_.ks x15_.vs x15_.kV_Create x15_.kV_Mod x15_.kV_Version x15_.kV_Lease)) (bytesV (kvb x15_.ks x15_.vs x15_.kV_Create x15_.kV_Mod x15_.kV_Version x15_.kV_Lease)) :: cl b22_ 129 [(vI .i64 x15_.rev_Main), (vI .i64 x15_.rev_Sub), (vB x15_.gone), (vP (some ⟨b16_, 0, none⟩))] :: sl 101 1 v1 (List.length ks) ks :: sl 101 1 v2 (List.length vs) vs :: F)) (rfl : List.replicate 18 (vI .u8 0) = [(vI .u8 0), (vI .u8 0), (vI .u8 0), (vI .u8 0), (vI .u8 0), (vI .u8 0), (vI .u8 0), (vI .u8 0), (vI .u8 0), (vI .u8 0), (vI .u8 0), (vI .u8 0), (vI .u8 0), (vI .u8 0), (vI .u8 0), (vI .u8 0), (vI .u8 0), (vI .u8 0)]) H51_
  have H56_ := ((Holds.bring H54_ 1 rfl) :)
  refine A_op (ls' := #[true, true, true, true, true, false, false, false]) rfl (by kernel_rfl) (T_call (al := [(vA #[(vI .i64 x15_.rev_Main), (vI .i64 x15_.rev_Sub), (vB x15_.gone)]), (vS (some ⟨b49_, 0, none⟩) 17 18)]) (pre := [cl b49_ 5 [(vI .u8 0), (vI .u8 0), (vI .u8 0), (vI .u8 0), (vI .u8 0), (vI .u8 0), (vI .u8 0), (vI .u8 0), (vI .u8 0), (vI .u8 0), (vI .u8 0), (vI .u8 0), (vI .u8 0), (vI .u8 0), (vI .u8 0), (vI .u8 0), (vI .u8 0), (vI .u8 0)]]) rfl rfl cb75 (hKey R1 b49_ x15_.rev_Main x15_.rev_Sub x15_.gone) H56_ ?_)
  rintro v55_ p60_ w57_ ⟨_, rfl, rfl⟩ S59_ H58_
  have S61_ := Same.trans S53_ S59_
  obtain ⟨-, a62_, cp63_, rfl, hle64_⟩ := Holds.sl_len H58_ 1 rfl
  refine ⟨⟨Holds.slrd H58_ 2 rfl, Holds.rd H58_ 3 rfl, Holds.slrd H58_ 5 rfl, (Holds.ro_at H58_ 0 rfl)⟩, ?_⟩
  refine A_ready (i := 5) (rs := []) (by kernel_rfl) ?_
  refine AllR.cons ?_ AllR.nil
  refine A_op (ls' := #[true, true, true, true, true, true, false, false]) rfl (by kernel_rfl) (T_new (obj := .cells #[(vS a62_ (List.length (rkey x15_.rev_Main x15_.rev_Sub x15_.gone)) cp63_)] 101) (f := fun b__ => .slice (some ⟨b__, 0, none⟩) 1 1) (A := fun b__ => cl b__ 101 [(vS a62_ (List.length (rkey x15_.rev_Main x15_.rev_Sub x15_.gone)) cp63_)]) (by kernel_rfl) (fun l h => h.alloc _ _) H58_ ?_)
  intro b65_ w66_ S68_ H67_
  have S69_ := Same.trans S61_ S68_
  refine ⟨⟨Holds.slrd H67_ 3 rfl, Holds.rd H67_ 4 rfl, Holds.slrd H67_ 6 rfl, (Holds.ro_at H67_ 1 rfl)⟩, ?_⟩
  refine A_ready (i := 6) (rs := []) (by kernel_rfl) ?_
  refine AllR.cons ?_ AllR.nil
  refine A_op (ls' := #[true, true, true, true, true, true, true, false]) rfl (by kernel_rfl) (T_append rfl rfl underlying116 z101 rfl (by decide) H67_ 5 rfl (Holds.cl_src H67_ 0 rfl underlying116 (by simp [Value.oneCell']) rfl) (by have h1l := h1.1; have h2l := h2.1; rw [List.length_map, List.length_take] at h1l h2l; omega) ?_)
  intro v70_ w71_ S73_ H72_
  have S74_ := Same.trans S69_ S73_
  refine ⟨⟨Holds.slrd H72_ 3 rfl, Holds.rd H72_ 4 rfl, Holds.slrd H72_ 6 rfl, (Holds.ro_at H72_ 1 rfl)⟩, ?_⟩
  have hq75_ := And.intro (Holds.slrd H72_ 3 rfl) (And.intro (Holds.rd H72_ 4 rfl) (And.intro (Holds.slrd H72_ 6 rfl) ((Holds.ro_at H72_ 1 rfl))))
  refine A_tk 7 (v := v70_) rfl (by kernel_rfl) (fun w hS => x_assign rfl) hq75_ ?_
  refine A_done (by kernel_rfl) ?_
  refine (X_then (hK44_ _ _ ?_))
  refine C_reg ?_
  refine sv (v := v2) (x_move rfl) ?_
  refine sm (vS a41_ (List.length (kvb x15_.ks x15_.vs x15_.kV_Create x15_.kV_Mod x15_.kV_Version x15_.kV_Lease)) cp42_) ?_
  refine S_list (T_new (obj := .cells #[(vS a41_ (List.length (kvb x15_.ks x15_.vs x15_.kV_Create x15_.kV_Mod x15_.kV_Version x15_.kV_Lease)) cp42_)] 101) (f := fun b__ => .slice (some ⟨b__, 0, none⟩) 1 1) (A := fun b__ => cl b__ 101 [(vS a41_ (List.length (kvb x15_.ks x15_.vs x15_.kV_Create x15_.kV_Mod x15_.kV_Version x15_.kV_Lease)) cp42_)]) (by kernel_rfl) (fun l h => h.alloc _ _) H72_ ?_)
  intro b76_ w77_ S79_ H78_
  have S80_ := Same.trans S74_ S79_
  refine S_list (T_append rfl rfl underlying116 z101 rfl (by decide) H78_ 7 rfl (Holds.cl_src H78_ 0 rfl underlying116 (by simp [Value.oneCell']) rfl) (by have h1l := h1.1; have h2l := h2.1; rw [List.length_map, List.length_take] at h1l h2l; omega) ?_)
  intro v81_ w82_ S84_ H83_
  have S85_ := Same.trans S80_ S84_
  refine sv (v := v81_) (x_assign rfl) ?_
  refine wpList_nil (X_blkN (X_then (hK13_ _ _ ?_)))
  refine C_reg ?_
  refine sv (v := (vI .i64 ((k : Int) + 1))) (x_bin rfl rfl (ib_add (IntWalk.i64_in _ (by omega)))) ?_
  refine sm (vI .i64 ((k : Int) + 1)) ?_
  refine wpList_nil (X_then ?_)
  have H86_ := ((Holds.bring (Holds.bring H83_ 3 rfl) 3 rfl) :)
  obtain ⟨R87_, hs88_, ⟨R89_, ha90_, hs91_⟩, H92_⟩ := Holds.gift H86_
  have hz_R_R87_ := Sub.trans' hsR1 hs88_
  have hr93_ : RS R87_ 1 (vS a62_ (List.length (rkey x15_.rev_Main x15_.rev_Sub x15_.gone)) cp63_) (List.length (rkey x15_.rev_Main x15_.rev_Sub x15_.gone)) (bytesV (rkey x15_.rev_Main x15_.rev_Sub x15_.gone)) := (sl_RS ha90_ (Sub.rfl' _)).mono hs91_
  have H94_ := ((Holds.bring (Holds.bring H92_ 3 rfl) 1 rfl) :)
  obtain ⟨R95_, hs96_, ⟨R97_, ha98_, hs99_⟩, H100_⟩ := Holds.gift H94_
  have hz_R_R95_ := Sub.trans' hz_R_R87_ hs96_
  have hz_R1_R95_ := Sub.trans' hs88_ hs96_
  have hr101_ : RS R95_ 1 (vS a41_ (List.length (kvb x15_.ks x15_.vs x15_.kV_Create x15_.kV_Mod x15_.kV_Version x15_.kV_Lease)) cp42_) (List.length (kvb x15_.ks x15_.vs x15_.kV_Create x15_.kV_Mod x15_.kV_Version x15_.kV_Lease)) (bytesV (kvb x15_.ks x15_.vs x15_.kV_Create x15_.kV_Mod x15_.kV_Version x15_.kV_Lease)) := (sl_RS ha98_ (Sub.rfl' _)).mono hs99_
  have H102_ := Holds.resl H100_ 4 rfl (rfl : ks ++ [(vS a62_ (List.length (rkey x15_.rev_Main x15_.rev_Sub x15_.gone)) cp63_)] = (ks ++ [(vS a62_ (List.length (rkey x15_.rev_Main x15_.rev_Sub x15_.gone)) cp63_)])) ((by first | rfl | omega | (simp; done) | (simp; omega)) : (List.length ks) + 1 = (List.length (ks ++ [(vS a62_ (List.length (rkey x15_.rev_Main x15_.rev_Sub x15_.gone)) cp63_)])))
  have H103_ := Holds.resl H102_ 5 rfl (rfl : vs ++ [(vS a41_ (List.length (kvb x15_.ks x15_.vs x15_.kV_Create x15_.kV_Mod x15_.kV_Version x15_.kV_Lease)) cp42_)] = (vs ++ [(vS a41_ (List.length (kvb x15_.ks x15_.vs x15_.kV_Create x15_.kV_Mod x15_.kV_Version x15_.kV_Lease)) cp42_)])) ((by first | rfl | omega | (simp; done) | (simp; omega)) : (List.length vs) + 1 = (List.length (vs ++ [(vS a41_ (List.length (kvb x15_.ks x15_.vs x15_.kV_Create x15_.kV_Mod x15_.kV_Version x15_.kV_Lease)) cp42_)])))
  have H104_ := Holds.pkF H103_ [4, 4, 0] 3
  exact ⟨⟨R95_, k + 1, v70_, v81_, ks ++ [(vS a62_ (List.length (rkey x15_.rev_Main x15_.rev_Sub x15_.gone)) cp63_)], vs ++ [(vS a41_ (List.length (kvb x15_.ks x15_.vs x15_.kV_Create x15_.kV_Mod x15_.kV_Version x15_.kV_Lease)) cp42_)]⟩, ⟨_, congrArg (fun e => mkA 37 e []) (ch (ch (ch (ch (ch (ch (ch rfl rfl) rfl) rfl) rfl) rfl) rfl) (congrArg (vI .i64) ((by first | rfl | omega | (simp; done) | (simp; omega)) : (k : Int) + 1 = ((k + 1 : Nat) : Int)))), H104_, S85_, (hz_R_R95_), (by first | assumption | omega | exact rfl), (Bts.next h1 hz_R1_R95_ hx19_ (RS.mono hr93_ hs96_)), (Bts.next h2 hz_R1_R95_ hx19_ hr101_)⟩, by first | omega | (dsimp only; omega) | (simp; omega)⟩
 ·have c12_fp : ¬ ((k : Int) < (zs.length : Int)) := of_decide_eq_false c12_f
  refine C_exit (X_thenX (X_thenX (X_blkHit ?_)))
  refine (X_then (hK3_ _ _ ?_))
  refine cR fun _ hK105_ => ?_
  refine sv (v := v1) (x_move rfl) ?_
  refine sv (v := v2) (x_move rfl) ?_
  refine sv (v := v1) (x_assign rfl) ?_
  refine sv (v := v2) (x_assign rfl) ?_
  refine wn (hK105_ _ _ ?_)
  refine C_ret ?_
  refine R_any (v := (vT #[v1, v2])) (run_results2 rfl rfl rfl) ?_
  have H106_ := Holds.pkF H8_ [2, 0, 0] 0
  exact ⟨R1, _, _, rfl, hsR1, ⟨v1, v2, ks, vs, rfl, rfl, (by have := hZ.1; rw [List.take_of_length_le (by omega)] at h1; exact h1), (by have := hZ.1; rw [List.take_of_length_le (by omega)] at h2; exact h2)⟩, S9_, H106_⟩
end Go.Proofs.YtlnihndjepjagaaGreat
set_option linter.unusedVariables false
set_option linter.unusedSimpArgs false
namespace Go.Proofs.YtlnihndjepjagaaGreat
open Go Go.RowKit Gw Tryz
open Go.Value renaming int → vI, bool → vB, slice → vS, pointer → vP, agg → vA, tuple → vT

/-! ### Numbers in pieces of seven bits, read back -/
def vbn (m : Nat) : Nat := if m < 128 then m else m % 128 + 128
def vtl (m : Nat) : List Int := if m < 128 then [] else vint (m / 128)
set_option maxRecDepth 100000 in
theorem vor_tab : ∀ x : Fin 256, ior .u8 ((x.val : Nat) : Int) 128 = ((x.val % 128 + 128 : Nat) : Int) := by decide +kernel
set_option maxRecDepth 100000 in
theorem vand_tab : ∀ x : Fin 256, iand .u8 ((x.val : Nat) : Int) 127 = ((x.val % 128 : Nat) : Int) := by decide +kernel
theorem vbn_256 (m : Nat) : vbn m < 256 := by unfold vbn; split <;> omega
theorem vbn_lt (m : Nat) : (vbn m < 128 → m < 128) ∧ (m < 128 → vbn m = m) := by unfold vbn; split <;> omega
theorem vint_cons (m : Nat) : vint m = (vbn m : Int) :: vtl m := by
  unfold vbn vtl
  by_cases h : m < 128
  · rw [vint_lt h, if_pos h, if_pos h, wrap_u8]; congr 1; omega
  · rw [vint_ge h, if_neg h, if_neg h, wrap_u8]
    have := vor_tab ⟨m % 256, by omega⟩
    simp only at this
    rw [show (m : Int) % 256 = ((m % 256 : Nat) : Int) by omega, this, show m % 256 % 128 = m % 128 by omega]
theorem vb_and (m : Nat) : iand .u8 ((vbn m : Nat) : Int) 127 = ((m % 128 : Nat) : Int) := by
  have h1 := vand_tab ⟨vbn m, vbn_256 m⟩
  simp only at h1
  rw [h1]
  have : vbn m % 128 = m % 128 := by unfold vbn; split <;> omega
  rw [this]
theorem v_lt {bs rest : List Int} {k m : Nat} (h : List.drop k bs = vint m ++ rest) : k < bs.length := by
  have := congrArg List.length h
  rw [vint_cons] at this
  simp at this; omega
theorem v_at {bs rest : List Int} {k m : Nat} (h : List.drop k bs = vint m ++ rest) : bs[k]? = some ((vbn m : Nat) : Int) := by
  have : (List.drop k bs)[0]? = some ((vbn m : Nat) : Int) := by rw [h, vint_cons]; rfl
  rw [List.getElem?_drop] at this
  simpa using this
theorem v_next {bs rest : List Int} {k m : Nat} (h : List.drop k bs = vint m ++ rest) (hm : ¬ m < 128) : List.drop (k + 1) bs = vint (m / 128) ++ rest := by
  rw [← List.drop_drop, h, vint_cons]
  unfold vtl
  rw [if_neg hm]
  simp
theorem v_rest {bs rest : List Int} {k m : Nat} (h : List.drop k bs = vint m ++ rest) (hm : m < 128) : List.drop (k + 1) bs = rest := by
  rw [← List.drop_drop, h, vint_cons]
  unfold vtl
  rw [if_pos hm]
  simp
theorem v_restT {bs rest : List Int} {k m : Nat} (h : List.drop k bs = vint m ++ rest) (hm : m < 128) : List.take (bs.length - (k + 1)) (List.drop (k + 1) bs) = rest := by
  rw [v_rest h hm]
  refine List.take_of_length_le ?_
  have := congrArg List.length (v_rest h hm)
  rw [List.length_drop] at this; omega
theorem v_restL {bs rest : List Int} {k m : Nat} (h : List.drop k bs = vint m ++ rest) (hm : m < 128) : bs.length - (k + 1) = rest.length := by
  have := congrArg List.length (v_rest h hm)
  rw [List.length_drop] at this; omega
theorem v_pow (k : Nat) : 2 ^ (7 * (k + 1)) = 128 * 2 ^ (7 * k) := by rw [show 7 * (k + 1) = 7 + 7 * k by omega, Nat.pow_add]
theorem v_step (a m k : Nat) : a + m % 128 * 2 ^ (7 * k) + m / 128 * 2 ^ (7 * (k + 1)) = a + m * 2 ^ (7 * k) := by
  rw [v_pow]
  generalize 2 ^ (7 * k) = P
  have h := Nat.mod_add_div m 128
  rw [← Nat.mul_assoc, Nat.mul_comm (m / 128) 128, Nat.add_assoc, ← Nat.add_mul, h]
theorem v_less {a m k : Nat} (h : a < 2 ^ (7 * k)) : a + m % 128 * 2 ^ (7 * k) < 2 ^ (7 * (k + 1)) := by
  rw [v_pow]
  generalize 2 ^ (7 * k) = P at *
  have h2 : m % 128 * P ≤ 127 * P := Nat.mul_le_mul_right _ (by omega)
  omega
theorem v_nine {a m k n : Nat} (hn : a + m * 2 ^ (7 * k) = n) (hlt : n < 18446744073709551616) (hk : 9 ≤ k) : m ≤ 1 := by
  have h1 : (2 : Nat) ^ (7 * 9) ≤ 2 ^ (7 * k) := Nat.pow_le_pow_right (by omega) (by omega)
  have h2 : m * 2 ^ (7 * 9) ≤ m * 2 ^ (7 * k) := Nat.mul_le_mul_left _ h1
  have e : (2 : Nat) ^ (7 * 9) = 9223372036854775808 := by decide
  rw [e] at h2
  omega
theorem v_shl {a m k n : Nat} (hn : a + m * 2 ^ (7 * k) = n) (hlt : n < 18446744073709551616) (hk : k ≤ 9) : IntKind.u64.wrap (((m % 128 : Nat) : Int) * 2 ^ (min (7 * (k : Int)).toNat (IntKind.bits .u64))) = ((m % 128 * 2 ^ (7 * k) : Nat) : Int) := by
  have e1 : min (7 * (k : Int)).toNat (IntKind.bits .u64) = 7 * k := by
    have : IntKind.bits .u64 = 64 := rfl
    omega
  rw [e1]
  have h2 : m % 128 * 2 ^ (7 * k) ≤ m * 2 ^ (7 * k) := Nat.mul_le_mul_right _ (Nat.mod_le _ _)
  have e2 : ((m % 128 : Nat) : Int) * 2 ^ (7 * k) = ((m % 128 * 2 ^ (7 * k) : Nat) : Int) := by simp
  rw [e2, wrap_u64]
  omega
theorem v_or {a m k n : Nat} (ha : a < 2 ^ (7 * k)) (hn : a + m * 2 ^ (7 * k) = n) (hlt : n < 18446744073709551616) : ior .u64 (a : Int) ((m % 128 * 2 ^ (7 * k) : Nat) : Int) = ((a + m % 128 * 2 ^ (7 * k) : Nat) : Int) := by
  have h2 : m % 128 * 2 ^ (7 * k) ≤ m * 2 ^ (7 * k) := Nat.mul_le_mul_right _ (Nat.mod_le _ _)
  have h1 : (m % 128 * 2 ^ (7 * k) ||| a) = m % 128 * 2 ^ (7 * k) + a := by
    have := Nat.two_pow_add_eq_or_of_lt (i := 7 * k) (b := a) ha (m % 128)
    rw [Nat.mul_comm] at this
    exact this.symm
  unfold ior
  have e : ((BitVec.ofInt 64 (a : Int) ||| BitVec.ofInt 64 ((m % 128 * 2 ^ (7 * k) : Nat) : Int)).toNat) = m % 128 * 2 ^ (7 * k) + a := by
    rw [BitVec.toNat_or, BitVec.ofInt_natCast, BitVec.ofInt_natCast, BitVec.toNat_ofNat, BitVec.toNat_ofNat, Nat.mod_eq_of_lt (by omega), Nat.mod_eq_of_lt (by omega), Nat.or_comm, h1]
  show IntKind.u64.wrap (((BitVec.ofInt 64 (a : Int) ||| BitVec.ofInt 64 ((m % 128 * 2 ^ (7 * k) : Nat) : Int)).toNat : Nat) : Int) = _
  rw [e, wrap_u64]; omega
theorem v_fin {a m k n : Nat} (hn : a + m * 2 ^ (7 * k) = n) (hm : m < 128) : ((a + m % 128 * 2 ^ (7 * k) : Nat) : Int) = ((n : Nat) : Int) := by
  rw [Nat.mod_eq_of_lt hm, hn]
theorem v_and0 {f : Nat} (h1 : 1 ≤ f) (h2 : f ≤ 6) : iand .u64 ((f * 8 : Nat) : Int) 7 = 0 := by
  have : f = 1 ∨ f = 2 ∨ f = 3 ∨ f = 4 ∨ f = 5 ∨ f = 6 := by omega
  rcases this with rfl | rfl | rfl | rfl | rfl | rfl <;> decide
theorem v_and2 {f : Nat} (h1 : 1 ≤ f) (h2 : f ≤ 6) : iand .u64 ((f * 8 + 2 : Nat) : Int) 7 = 2 := by
  have : f = 1 ∨ f = 2 ∨ f = 3 ∨ f = 4 ∨ f = 5 ∨ f = 6 := by omega
  rcases this with rfl | rfl | rfl | rfl | rfl | rfl <;> decide
theorem wrap_i64' (x : Int) : IntKind.i64.wrap x = if x % 18446744073709551616 < 9223372036854775808 then x % 18446744073709551616 else x % 18446744073709551616 - 18446744073709551616 := by
  have e1 : (2 : Int) ^ 64 = 18446744073709551616 := by decide
  have e2 : (2 : Int) ^ 63 = 9223372036854775808 := by decide
  simp only [IntKind.wrap, IntKind.bits, IntKind.signed, e1, e2]
  simp
  split <;> split <;> omega
theorem v_back {x : Int} (h0 : -9223372036854775808 ≤ x) (h1 : x < 9223372036854775808) : IntKind.i64.wrap (((IntKind.u64.wrap x).toNat : Nat) : Int) = x := by
  have := u64_range x
  rw [wrap_i64', wrap_u64] at *
  split <;> omega
theorem vi_nat {n : Nat} (h : n < 18446744073709551616) : vi (n : Int) = vint n := by
  unfold vi
  rw [wrap_u64]
  congr 1; omega

end Go.Proofs.YtlnihndjepjagaaGreat
set_option linter.unusedVariables false
set_option linter.unusedSimpArgs false
namespace Go.Proofs.YtlnihndjepjagaaGreat
open Go Go.RowKit Gw Tryz
open Go.Value renaming int → vI, bool → vB, slice → vS, pointer → vP, agg → vA, tuple → vT

set_option maxHeartbeats 1600000 in
theorem tVint (R : HP) (v : Value) (n : Nat) (rest : List Int) (hV : RS R 1 v (List.length (vint n ++ rest)) (bytesV (vint n ++ rest))) (hn : n < 18446744073709551616) (hl : (vint n ++ rest).length ≤ 1000000000000) :
    Tri Tryz.prog 147 #[v] R [] (fun v__ post__ => ∃ (v' : Value), v__ = (vT #[(vI .u64 ((n : Nat) : Int)), v', (vB true)]) ∧ post__ = [] ∧ (RS R 1 v' (List.length rest) (bytesV rest))) := by
 refine Tri.into (n := 48) (al := [v]) func147 rfl ntmps147 rfl rfl fun w F H => ?_
 refine cR fun _ hK1_ => ?_
 refine sv (v := (vI .u64 0)) (x_assign rfl) ?_
 refine sv (v := (vS none 0 0)) (x_assign rfl) ?_
 refine sv (v := (vB false)) (x_assign rfl) ?_
 refine wn (hK1_ _ _ ?_)
 refine cR fun _ hK2_ => ?_
 refine sv (v := (vI .u64 0)) (x_assign rfl) ?_
 refine wn (hK2_ _ _ ?_)
 refine C_seq (fun _ hK3_ => ?_)
 refine cR fun _ hK4_ => ?_
 refine sv (v := (vI .i64 0)) (x_assign rfl) ?_
 refine wn (hK4_ _ _ ?_)
 refine C_block ?_
 refine C_loop (γ := Nat × Nat × Nat × Int × Value × Bool) (fun x__ a__ w1__ => match x__ with | ⟨k, m, a, t2_v, t3_v, t4_v⟩ => ∃ h : Env, a__ = mkA 48 (upd (upd (upd (upd (upd (upd h 0 v) 2 (vI .u64 t2_v)) 3 t3_v) 4 (vB t4_v)) 5 (vI .u64 ((a : Nat) : Int))) 6 (vI .i64 (k : Int))) [] ∧ Holds w1__ (ro R :: F) ∧ Same w w1__ ∧ (k ≤ 9) ∧ (List.drop k (vint n ++ rest) = vint m ++ rest) ∧ (a < 2 ^ (7 * k)) ∧ (a + m * 2 ^ (7 * k) = n)) (fun x__ => match x__ with | ⟨k, m, a, t2_v, t3_v, t4_v⟩ => 10 - k) (⟨0, n, 0, 0, (vS none 0 0), false⟩) ⟨_, congrArg (fun e => mkA 48 e []) (ch (ch (ch (ch (ch (ch rfl rfl) rfl) (rfl : (vS none 0 0) = ((vS none 0 0)))) rfl) (congrArg (vI .u64) ((by first | rfl | omega | (simp; done) | (simp; omega)) : 0 = ((0 : Nat) : Int)))) (congrArg (vI .i64) ((by first | rfl | omega | (simp; done) | (simp; omega)) : 0 = (0 : Int)))), H, (Same.refl w), (by omega), (rfl), (by decide), (by simp)⟩ ?_
 rintro ⟨k, m, a, t2_v, t3_v, t4_v⟩ _ w5_ ⟨h, rfl, H6_, S7_, hk9, hdr, ha, hnn⟩
 have hkl_ := v_lt hdr
 have h9_ := v_nine hnn hn
 have hvb_ := vbn_lt m
 have hvs_ := vbn_256 m
 refine C_seq (fun _ hK8_ => ?_)
 refine cR fun _ hK9_ => ?_
 refine sm (vI .i64 (k : Int)) ?_
 refine sv (v := v) (x_move rfl) ?_
 refine sv (v := (vI .i64 ((List.length (vint n ++ rest)) : Int))) (x_lenRS rfl hV underlying101) ?_
 refine sv (v := (vB (decide ((k : Int) < ((List.length (vint n ++ rest)) : Int))))) (x_bin rfl rfl rfl) ?_
 refine sv (v := (vB (decide ((k : Int) < ((List.length (vint n ++ rest)) : Int))))) (x_move rfl) ?_
 rcases Bool.eq_false_or_eq_true (decide ((k : Int) < ((List.length (vint n ++ rest)) : Int))) with c10_t | c10_f
 ·have c10_tp : (k : Int) < ((List.length (vint n ++ rest)) : Int) := of_decide_eq_true c10_t
  refine S_yes (j := 4) (dj := 11) (b := true) rfl rfl (congrArg vB c10_t) (T_val (v := (vI .i64 (k : Int))) (x_move rfl) ?_)
  refine S_yes (j := 4) (dj := 11) (b := true) rfl rfl (congrArg vB c10_t) (T_val (v := (vB (decide ((k : Int) < 10)))) (x_bin rfl rfl rfl) ?_)
  refine S_list (T_pickT (v := (vB (decide ((k : Int) < 10)))) (congrArg vB c10_t) rfl ?_)
  refine wn (hK9_ _ _ ?_)
  refine C_cond (b := decide ((k : Int) < 10)) rfl (fun c11_t => ?_) (fun c11_f => ?_)
  ·have c11_tp : (k : Int) < 10 := of_decide_eq_true c11_t
   refine C_skip (X_then (hK8_ _ _ ?_))
   refine C_seq (fun _ hK12_ => ?_)
   refine C_block ?_
   refine C_seq (fun _ hK13_ => ?_)
   refine cR fun _ hK14_ => ?_
   refine sm (vI .i64 (k : Int)) ?_
   refine sv (v := (vB (decide ((k : Int) = 9)))) (x_bin rfl rfl rfl) ?_
   refine sv (v := (vB (decide ((k : Int) = 9)))) (x_move rfl) ?_
   rcases Bool.eq_false_or_eq_true (decide ((k : Int) = 9)) with c15_t | c15_f
   ·have c15_tp : (k : Int) = 9 := of_decide_eq_true c15_t
    refine S_yes (j := 2) (dj := 19) (b := true) rfl rfl (congrArg vB c15_t) (T_val (v := v) (x_move rfl) ?_)
    refine S_yes (j := 2) (dj := 19) (b := true) rfl rfl (congrArg vB c15_t) (T_val (v := (vI .i64 (k : Int))) (x_move rfl) ?_)
    refine S_yes (j := 2) (dj := 19) (b := true) rfl rfl (congrArg vB c15_t) (T_val (v := (vP (some ⟨(sb v), so v + k, none⟩))) (x_idxRS (v := v) rfl hV rfl underlying101 z5 (by omega) (by omega) (by omega : _ = k) (by rw [Nat.mul_one])) ?_)
    refine S_yes (j := 2) (dj := 19) (b := true) rfl rfl (congrArg vB c15_t) (T_val (v := (vI .u8 ((vbn m : Nat) : Int))) (x_load1 rfl underlying5 rfl (RC.cell (RS.rc hV) (Holds.ro_at H6_ 0 rfl) (j := k) (u := (vI .u8 ((vbn m : Nat) : Int))) ((map_at (v_at hdr))))) ?_)
    refine S_yes (j := 2) (dj := 19) (b := true) rfl rfl (congrArg vB c15_t) (T_val (v := (vB (decide (1 < ((vbn m : Nat) : Int))))) (x_bin rfl rfl rfl) ?_)
    refine S_list (T_pickT (v := (vB (decide (1 < ((vbn m : Nat) : Int))))) (congrArg vB c15_t) rfl ?_)
    refine wn (hK14_ _ _ ?_)
    refine C_cond (b := decide (1 < ((vbn m : Nat) : Int))) rfl (fun c16_t => ?_) (fun c16_f => ?_)
    ·have c16_tp : 1 < ((vbn m : Nat) : Int) := of_decide_eq_true c16_t
     omega
    ·have c16_fp : ¬ (1 < ((vbn m : Nat) : Int)) := of_decide_eq_false c16_f
     refine C_skip (X_then (hK13_ _ _ ?_))
     refine cR fun _ hK17_ => ?_
     refine sm (vI .u64 ((a : Nat) : Int)) ?_
     refine sv (v := v) (x_move rfl) ?_
     refine sm (vI .i64 (k : Int)) ?_
     refine sv (v := (vP (some ⟨(sb v), so v + k, none⟩))) (x_idxRS (v := v) rfl hV rfl underlying101 z5 (by omega) (by omega) (by omega : _ = k) (by rw [Nat.mul_one])) ?_
     refine sv (v := (vI .u8 ((vbn m : Nat) : Int))) (x_load1 rfl underlying5 rfl (RC.cell (RS.rc hV) (Holds.ro_at H6_ 0 rfl) (j := k) (u := (vI .u8 ((vbn m : Nat) : Int))) ((map_at (v_at hdr))))) ?_
     refine sv (v := (vI .u8 ((m % 128 : Nat) : Int))) (x_bin rfl rfl (congrArg (fun z => some (vI .u8 z)) (vb_and m))) ?_
     refine sv (v := (vI .u64 ((m % 128 : Nat) : Int))) (x_convI rfl underlying5 underlying209 (by rw [wrap_u64]; omega)) ?_
     refine sm (vI .i64 (k : Int)) ?_
     refine sv (v := (vI .u64 (k : Int))) (x_convI rfl underlying3 underlying148 (by rw [wrap_u64]; omega)) ?_
     refine sv (v := (vI .u64 (7 * (k : Int)))) (x_bin rfl rfl (ib_mul (IntWalk.u64_in _ (by omega)))) ?_
     refine sv (v := (vI .u64 ((m % 128 * 2 ^ (7 * k) : Nat) : Int))) (x_shl rfl rfl (by omega) (v_shl hnn hn hk9)) ?_
     refine sv (v := (vI .u64 ((a + m % 128 * 2 ^ (7 * k) : Nat) : Int))) (x_bin rfl rfl (congrArg (fun z => some (vI .u64 z)) (v_or ha hnn hn))) ?_
     refine sv (v := (vI .u64 ((a + m % 128 * 2 ^ (7 * k) : Nat) : Int))) (x_assign rfl) ?_
     refine wn (hK17_ _ _ ?_)
     refine cR fun _ hK18_ => ?_
     refine sv (v := v) (x_move rfl) ?_
     refine sm (vI .i64 (k : Int)) ?_
     refine sv (v := (vP (some ⟨(sb v), so v + k, none⟩))) (x_idxRS (v := v) rfl hV rfl underlying101 z5 (by omega) (by omega) (by omega : _ = k) (by rw [Nat.mul_one])) ?_
     refine sv (v := (vI .u8 ((vbn m : Nat) : Int))) (x_load1 rfl underlying5 rfl (RC.cell (RS.rc hV) (Holds.ro_at H6_ 0 rfl) (j := k) (u := (vI .u8 ((vbn m : Nat) : Int))) ((map_at (v_at hdr))))) ?_
     refine sv (v := (vB (decide (((vbn m : Nat) : Int) < 128)))) (x_bin rfl rfl rfl) ?_
     refine wn (hK18_ _ _ ?_)
     refine C_cond (b := decide (((vbn m : Nat) : Int) < 128)) rfl (fun c19_t => ?_) (fun c19_f => ?_)
     ·have c19_tp : ((vbn m : Nat) : Int) < 128 := of_decide_eq_true c19_t
      refine C_seq (fun _ hK20_ => ?_)
      refine A_start (S := fun w => Sub R (hp w)) (N := 8) foll rfl rfl ?_
      have H21_ := Holds.drew_ H6_
      have hq22_ := ((Holds.ro_at H21_ 0 rfl))
      refine A_tk 0 (v := (vI .u64 ((a + m % 128 * 2 ^ (7 * k) : Nat) : Int))) rfl (by kernel_rfl) (fun w hS => x_move rfl) hq22_ ?_
      refine A_tk 1 (v := v) rfl (by kernel_rfl) (fun w hS => x_move rfl) hq22_ ?_
      refine A_tk 2 (v := (vI .i64 (k : Int))) rfl (by kernel_rfl) (fun w hS => x_move rfl) hq22_ ?_
      refine A_tk 3 (v := (vI .i64 ((k : Int) + 1))) rfl (by kernel_rfl) (fun w hS => x_bin rfl rfl (ib_add (IntWalk.i64_in _ (by omega)))) hq22_ ?_
      refine A_tk 4 (v := (slc v (k + 1) (List.length (vint n ++ rest)) 1)) rfl (by kernel_rfl) (fun w hS => x_sliceRS (l := k + 1) (h := (List.length (vint n ++ rest))) rfl hV underlying101 z5 (by omega) rfl ⟨_, _, rfl, by omega, by omega, by omega⟩) hq22_ ?_
      refine A_tk 5 (v := (vI .u64 ((a + m % 128 * 2 ^ (7 * k) : Nat) : Int))) rfl (by kernel_rfl) (fun w hS => x_assign rfl) hq22_ ?_
      refine A_tk 6 (v := (slc v (k + 1) (List.length (vint n ++ rest)) 1)) rfl (by kernel_rfl) (fun w hS => x_assign rfl) hq22_ ?_
      refine A_tk 7 (v := (vB true)) rfl (by kernel_rfl) (fun w hS => x_assign rfl) hq22_ ?_
      refine A_done (by kernel_rfl) ?_
      refine (X_then (hK20_ _ _ ?_))
      refine C_ret (X_blkR (X_thenR (X_thenR (X_blkR (X_thenR ?_)))))
      refine R_any (v := (vT #[(vI .u64 ((a + m % 128 * 2 ^ (7 * k) : Nat) : Int)), (slc v (k + 1) (List.length (vint n ++ rest)) 1), (vB true)])) (run_results3 rfl rfl rfl rfl) ?_
      exact ⟨_, _, rfl, ⟨slc v (k + 1) (List.length (vint n ++ rest)) 1, (congrArg (fun l => vT (List.toArray l)) (lcons (congrArg (vI .u64) ((v_fin hnn (by omega)) : ((a + m % 128 * 2 ^ (7 * k) : Nat) : Int) = ((n : Nat) : Int))) (lcons (rfl : (slc v (k + 1) (List.length (vint n ++ rest)) 1) = ((slc v (k + 1) (List.length (vint n ++ rest)) 1))) rfl))), rfl, (RS.set_ (RS.slcB hV (by omega : k + 1 ≤ (List.length (vint n ++ rest))) (by omega : (List.length (vint n ++ rest)) ≤ (List.length (vint n ++ rest)))) (congrArg bytesV (v_restT hdr (by omega))) (v_restL hdr (by omega)))⟩, (Same.trans S7_ (Same.drew _)), H21_⟩
     ·have c19_fp : ¬ (((vbn m : Nat) : Int) < 128) := of_decide_eq_false c19_f
      refine C_skip (X_blkN (X_then (hK12_ _ _ ?_)))
      refine C_reg ?_
      refine sm (vI .i64 (k : Int)) ?_
      refine sv (v := (vI .i64 ((k : Int) + 1))) (x_bin rfl rfl (ib_add (IntWalk.i64_in _ (by omega)))) ?_
      refine sv (v := (vI .i64 ((k : Int) + 1))) (x_assign rfl) ?_
      refine wpList_nil (X_then ?_)
      exact ⟨⟨k + 1, m / 128, (a + m % 128 * 2 ^ (7 * k)), t2_v, t3_v, t4_v⟩, ⟨_, congrArg (fun e => mkA 48 e []) (ch (ch (ch (ch (ch (ch rfl rfl) rfl) rfl) rfl) (congrArg (vI .u64) ((by first | rfl | omega | (simp; done) | (simp; omega)) : ((a + m % 128 * 2 ^ (7 * k) : Nat) : Int) = (((a + m % 128 * 2 ^ (7 * k)) : Nat) : Int)))) (congrArg (vI .i64) ((by first | rfl | omega | (simp; done) | (simp; omega)) : (k : Int) + 1 = ((k + 1 : Nat) : Int)))), H6_, S7_, (by omega), (v_next hdr (by omega)), (v_less ha), ((v_step a m k).trans hnn)⟩, by first | omega | (dsimp only; omega) | (simp; omega)⟩
   ·have c15_fp : ¬ ((k : Int) = 9) := of_decide_eq_false c15_f
    refine S_no (j := 2) (dj := 19) (b := false) rfl rfl (congrArg vB c15_f) (by decide) ?_
    refine S_no (j := 2) (dj := 19) (b := false) rfl rfl (congrArg vB c15_f) (by decide) ?_
    refine S_no (j := 2) (dj := 19) (b := false) rfl rfl (congrArg vB c15_f) (by decide) ?_
    refine S_no (j := 2) (dj := 19) (b := false) rfl rfl (congrArg vB c15_f) (by decide) ?_
    refine S_no (j := 2) (dj := 19) (b := false) rfl rfl (congrArg vB c15_f) (by decide) ?_
    refine S_list (T_pickF (v := (vB false)) (congrArg vB c15_f) rfl ?_)
    refine wn (hK14_ _ _ ?_)
    refine C_condF rfl ?_
    refine C_skip (X_then (hK13_ _ _ ?_))
    refine cR fun _ hK23_ => ?_
    refine sm (vI .u64 ((a : Nat) : Int)) ?_
    refine sv (v := v) (x_move rfl) ?_
    refine sm (vI .i64 (k : Int)) ?_
    refine sv (v := (vP (some ⟨(sb v), so v + k, none⟩))) (x_idxRS (v := v) rfl hV rfl underlying101 z5 (by omega) (by omega) (by omega : _ = k) (by rw [Nat.mul_one])) ?_
    refine sv (v := (vI .u8 ((vbn m : Nat) : Int))) (x_load1 rfl underlying5 rfl (RC.cell (RS.rc hV) (Holds.ro_at H6_ 0 rfl) (j := k) (u := (vI .u8 ((vbn m : Nat) : Int))) ((map_at (v_at hdr))))) ?_
    refine sv (v := (vI .u8 ((m % 128 : Nat) : Int))) (x_bin rfl rfl (congrArg (fun z => some (vI .u8 z)) (vb_and m))) ?_
    refine sv (v := (vI .u64 ((m % 128 : Nat) : Int))) (x_convI rfl underlying5 underlying209 (by rw [wrap_u64]; omega)) ?_
    refine sm (vI .i64 (k : Int)) ?_
    refine sv (v := (vI .u64 (k : Int))) (x_convI rfl underlying3 underlying148 (by rw [wrap_u64]; omega)) ?_
    refine sv (v := (vI .u64 (7 * (k : Int)))) (x_bin rfl rfl (ib_mul (IntWalk.u64_in _ (by omega)))) ?_
    refine sv (v := (vI .u64 ((m % 128 * 2 ^ (7 * k) : Nat) : Int))) (x_shl rfl rfl (by omega) (v_shl hnn hn hk9)) ?_
    refine sv (v := (vI .u64 ((a + m % 128 * 2 ^ (7 * k) : Nat) : Int))) (x_bin rfl rfl (congrArg (fun z => some (vI .u64 z)) (v_or ha hnn hn))) ?_
    refine sv (v := (vI .u64 ((a + m % 128 * 2 ^ (7 * k) : Nat) : Int))) (x_assign rfl) ?_
    refine wn (hK23_ _ _ ?_)
    refine cR fun _ hK24_ => ?_
    refine sv (v := v) (x_move rfl) ?_
    refine sm (vI .i64 (k : Int)) ?_
    refine sv (v := (vP (some ⟨(sb v), so v + k, none⟩))) (x_idxRS (v := v) rfl hV rfl underlying101 z5 (by omega) (by omega) (by omega : _ = k) (by rw [Nat.mul_one])) ?_
    refine sv (v := (vI .u8 ((vbn m : Nat) : Int))) (x_load1 rfl underlying5 rfl (RC.cell (RS.rc hV) (Holds.ro_at H6_ 0 rfl) (j := k) (u := (vI .u8 ((vbn m : Nat) : Int))) ((map_at (v_at hdr))))) ?_
    refine sv (v := (vB (decide (((vbn m : Nat) : Int) < 128)))) (x_bin rfl rfl rfl) ?_
    refine wn (hK24_ _ _ ?_)
    refine C_cond (b := decide (((vbn m : Nat) : Int) < 128)) rfl (fun c25_t => ?_) (fun c25_f => ?_)
    ·have c25_tp : ((vbn m : Nat) : Int) < 128 := of_decide_eq_true c25_t
     refine C_seq (fun _ hK26_ => ?_)
     refine A_start (S := fun w => Sub R (hp w)) (N := 8) foll rfl rfl ?_
     have H27_ := Holds.drew_ H6_
     have hq28_ := ((Holds.ro_at H27_ 0 rfl))
     refine A_tk 0 (v := (vI .u64 ((a + m % 128 * 2 ^ (7 * k) : Nat) : Int))) rfl (by kernel_rfl) (fun w hS => x_move rfl) hq28_ ?_
     refine A_tk 1 (v := v) rfl (by kernel_rfl) (fun w hS => x_move rfl) hq28_ ?_
     refine A_tk 2 (v := (vI .i64 (k : Int))) rfl (by kernel_rfl) (fun w hS => x_move rfl) hq28_ ?_
     refine A_tk 3 (v := (vI .i64 ((k : Int) + 1))) rfl (by kernel_rfl) (fun w hS => x_bin rfl rfl (ib_add (IntWalk.i64_in _ (by omega)))) hq28_ ?_
     refine A_tk 4 (v := (slc v (k + 1) (List.length (vint n ++ rest)) 1)) rfl (by kernel_rfl) (fun w hS => x_sliceRS (l := k + 1) (h := (List.length (vint n ++ rest))) rfl hV underlying101 z5 (by omega) rfl ⟨_, _, rfl, by omega, by omega, by omega⟩) hq28_ ?_
     refine A_tk 5 (v := (vI .u64 ((a + m % 128 * 2 ^ (7 * k) : Nat) : Int))) rfl (by kernel_rfl) (fun w hS => x_assign rfl) hq28_ ?_
     refine A_tk 6 (v := (slc v (k + 1) (List.length (vint n ++ rest)) 1)) rfl (by kernel_rfl) (fun w hS => x_assign rfl) hq28_ ?_
     refine A_tk 7 (v := (vB true)) rfl (by kernel_rfl) (fun w hS => x_assign rfl) hq28_ ?_
     refine A_done (by kernel_rfl) ?_
     refine (X_then (hK26_ _ _ ?_))
     refine C_ret (X_blkR (X_thenR (X_thenR (X_blkR (X_thenR ?_)))))
     refine R_any (v := (vT #[(vI .u64 ((a + m % 128 * 2 ^ (7 * k) : Nat) : Int)), (slc v (k + 1) (List.length (vint n ++ rest)) 1), (vB true)])) (run_results3 rfl rfl rfl rfl) ?_
     exact ⟨_, _, rfl, ⟨slc v (k + 1) (List.length (vint n ++ rest)) 1, (congrArg (fun l => vT (List.toArray l)) (lcons (congrArg (vI .u64) ((v_fin hnn (by omega)) : ((a + m % 128 * 2 ^ (7 * k) : Nat) : Int) = ((n : Nat) : Int))) (lcons (rfl : (slc v (k + 1) (List.length (vint n ++ rest)) 1) = ((slc v (k + 1) (List.length (vint n ++ rest)) 1))) rfl))), rfl, (RS.set_ (RS.slcB hV (by omega : k + 1 ≤ (List.length (vint n ++ rest))) (by omega : (List.length (vint n ++ rest)) ≤ (List.length (vint n ++ rest)))) (congrArg bytesV (v_restT hdr (by omega))) (v_restL hdr (by omega)))⟩, (Same.trans S7_ (Same.drew _)), H27_⟩
    ·have c25_fp : ¬ (((vbn m : Nat) : Int) < 128) := of_decide_eq_false c25_f
     refine C_skip (X_blkN (X_then (hK12_ _ _ ?_)))
     refine C_reg ?_
     refine sm (vI .i64 (k : Int)) ?_
     refine sv (v := (vI .i64 ((k : Int) + 1))) (x_bin rfl rfl (ib_add (IntWalk.i64_in _ (by omega)))) ?_
     refine sv (v := (vI .i64 ((k : Int) + 1))) (x_assign rfl) ?_
     refine wpList_nil (X_then ?_)
     exact ⟨⟨k + 1, m / 128, (a + m % 128 * 2 ^ (7 * k)), t2_v, t3_v, t4_v⟩, ⟨_, congrArg (fun e => mkA 48 e []) (ch (ch (ch (ch (ch (ch rfl rfl) rfl) rfl) rfl) (congrArg (vI .u64) ((by first | rfl | omega | (simp; done) | (simp; omega)) : ((a + m % 128 * 2 ^ (7 * k) : Nat) : Int) = (((a + m % 128 * 2 ^ (7 * k)) : Nat) : Int)))) (congrArg (vI .i64) ((by first | rfl | omega | (simp; done) | (simp; omega)) : (k : Int) + 1 = ((k + 1 : Nat) : Int)))), H6_, S7_, (by omega), (v_next hdr (by omega)), (v_less ha), ((v_step a m k).trans hnn)⟩, by first | omega | (dsimp only; omega) | (simp; omega)⟩
  ·have c11_fp : ¬ ((k : Int) < 10) := of_decide_eq_false c11_f
   omega
 ·have c10_fp : ¬ ((k : Int) < ((List.length (vint n ++ rest)) : Int)) := of_decide_eq_false c10_f
  omega
end Go.Proofs.YtlnihndjepjagaaGreat
set_option linter.unusedVariables false
set_option linter.unusedSimpArgs false
namespace Go.Proofs.YtlnihndjepjagaaGreat
open Go Go.RowKit Gw Tryz
open Go.Value renaming int → vI, bool → vB, slice → vS, pointer → vP, agg → vA, tuple → vT

/-! ### Fields on their way back -/
structure FD where
  num : Nat
  isB : Bool
  i : Int
  data : List Int
def FD.enc (x : FD) : List Int := if x.isB then vint (x.num * 8 + 2) ++ (vint x.data.length ++ x.data) else vint (x.num * 8) ++ vi x.i
structure FD.Ok (x : FD) : Prop where
  n1 : 1 ≤ x.num
  n6 : x.num ≤ 6
  b : x.isB = true → x.i = 0
  d : x.isB = false → x.data = []
  bb : x.isB = true ↔ x.num = 1 ∨ x.num = 5
  i0 : -9223372036854775808 ≤ x.i
  i1 : x.i < 9223372036854775808
def FD.encs (l : List FD) : List Int := l.flatMap FD.enc
theorem FD.enc_i {f : Nat} {x : Int} {u : List Int} (rest : List Int) (h : u = []) : FD.enc ⟨f, false, x, u⟩ ++ rest = vint (f * 8) ++ (vi x ++ rest) := by simp [FD.enc]
theorem FD.enc_b {f : Nat} {x : Int} {u rest : List Int} : FD.enc ⟨f, true, x, u⟩ ++ rest = vint (f * 8 + 2) ++ (vint u.length ++ (u ++ rest)) := by simp [FD.enc]
set_option maxHeartbeats 1600000 in
theorem tTakeI (R : HP) (v : Value) (f : Nat) (x : Int) (rest : List Int) (hV : RS R 1 v (List.length (vint (f * 8) ++ (vi x ++ rest))) (bytesV (vint (f * 8) ++ (vi x ++ rest)))) (hf1 : 1 ≤ f) (hf6 : f ≤ 6) (hx0 : -9223372036854775808 ≤ x) (hx1 : x < 9223372036854775808) (hl : (vint (f * 8) ++ (vi x ++ rest)).length ≤ 1000000000000) :
    Tri Tryz.prog 146 #[v, (vI .i64 0)] R [] (fun v__ post__ => ∃ (v' : Value), v__ = (vT #[(vA #[(vI .i64 (f : Int)), (vB false), (vI .i64 x), (vS none 0 0)]), v', (vB true)]) ∧ post__ = [] ∧ (RS R 1 v' (List.length rest) (bytesV rest))) := by
 have hux_ := u64_range x
 simp only [List.length_append] at hl
 refine Tri.into (n := 136) (al := [v, (vI .i64 0)]) func146 rfl ntmps146 rfl rfl fun w F H => ?_
 refine cR fun _ hK1_ => ?_
 refine S_list (T_alloc z259 H ?_)
 intro b2_ w3_ S5_ H4_
 have S6_ := Same.trans (Same.refl w) S5_
 refine sv (v := (vS none 0 0)) (x_assign rfl) ?_
 refine sv (v := (vB false)) (x_assign rfl) ?_
 refine wn (hK1_ _ _ ?_)
 refine cR fun _ hK7_ => ?_
 refine sv (v := v) (x_move rfl) ?_
 have H11_ := ((Holds.bring H4_ 1 rfl) :)
 refine S_list (T_call (al := [v]) (pre := []) rfl rfl cb147 (tVint R v (f * 8) (vi x ++ rest) hV (by first | assumption | omega) (by simp only [List.length_append]; omega)) H11_ ?_)
 rintro v8_ p15_ w12_ ⟨v9_, rfl, rfl, he10_⟩ S14_ H13_
 have S16_ := Same.trans S6_ S14_
 refine sv (v := (vT #[(vI .u64 (((f * 8) : Nat) : Int)), v9_, (vB true)])) (x_move rfl) ?_
 refine sv (v := (vI .u64 (((f * 8) : Nat) : Int))) (by kernel_rfl) ?_
 refine sv (v := v9_) (by kernel_rfl) ?_
 refine sv (v := (vB true)) (by kernel_rfl) ?_
 refine sv (v := (vI .u64 (((f * 8) : Nat) : Int))) (x_assign rfl) ?_
 refine sv (v := v9_) (x_assign rfl) ?_
 refine sv (v := (vB true)) (x_assign rfl) ?_
 refine wn (hK7_ _ _ ?_)
 refine C_seq (fun _ hK17_ => ?_)
 refine cR fun _ hK18_ => ?_
 refine sm (vB true) ?_
 refine sv (v := (vB false)) (x_cast (x_not (b := true) rfl) rfl) ?_
 refine sm (vB false) ?_
 refine S_yes (j := 2) (dj := 26) (b := false) rfl rfl rfl (T_val (v := (vI .u64 (((f * 8) : Nat) : Int))) (x_move rfl) ?_)
 refine S_yes (j := 2) (dj := 26) (b := false) rfl rfl rfl (T_val (v := (vI .u64 ((((f * 8) : Nat) : Int) / 8))) (x_shr rfl rfl (by omega) (shrN (by decide) (by decide))) ?_)
 refine S_yes (j := 2) (dj := 26) (b := false) rfl rfl rfl (T_val (v := (vB (decide ((((f * 8) : Nat) : Int) / 8 = 0)))) (x_bin rfl rfl rfl) ?_)
 refine S_list (T_pickF (v := (vB (decide ((((f * 8) : Nat) : Int) / 8 = 0)))) rfl rfl ?_)
 refine sv (v := (vB (decide ((((f * 8) : Nat) : Int) / 8 = 0)))) (x_move rfl) ?_
 rcases Bool.eq_false_or_eq_true (decide ((((f * 8) : Nat) : Int) / 8 = 0)) with c19_t | c19_f
 ·have c19_tp : (((f * 8) : Nat) : Int) / 8 = 0 := of_decide_eq_true c19_t
  omega
 ·have c19_fp : ¬ ((((f * 8) : Nat) : Int) / 8 = 0) := of_decide_eq_false c19_f
  refine S_yes (j := 7) (dj := 31) (b := false) rfl rfl (congrArg vB c19_f) (T_val (v := (vI .u64 (((f * 8) : Nat) : Int))) (x_move rfl) ?_)
  refine S_yes (j := 7) (dj := 31) (b := false) rfl rfl (congrArg vB c19_f) (T_val (v := (vI .u64 ((((f * 8) : Nat) : Int) / 8))) (x_shr rfl rfl (by omega) (shrN (by decide) (by decide))) ?_)
  refine S_yes (j := 7) (dj := 31) (b := false) rfl rfl (congrArg vB c19_f) (T_val (v := (vB (decide (536870911 < (((f * 8) : Nat) : Int) / 8)))) (x_bin rfl rfl rfl) ?_)
  refine S_list (T_pickF (v := (vB (decide (536870911 < (((f * 8) : Nat) : Int) / 8)))) (congrArg vB c19_f) rfl ?_)
  refine sv (v := (vB (decide (536870911 < (((f * 8) : Nat) : Int) / 8)))) (x_move rfl) ?_
  rcases Bool.eq_false_or_eq_true (decide (536870911 < (((f * 8) : Nat) : Int) / 8)) with c20_t | c20_f
  ·have c20_tp : 536870911 < (((f * 8) : Nat) : Int) / 8 := of_decide_eq_true c20_t
   omega
  ·have c20_fp : ¬ (536870911 < (((f * 8) : Nat) : Int) / 8) := of_decide_eq_false c20_f
   refine S_yes (j := 12) (dj := 36) (b := false) rfl rfl (congrArg vB c20_f) (T_val (v := (vI .i64 0)) (x_move rfl) ?_)
   refine S_yes (j := 12) (dj := 36) (b := false) rfl rfl (congrArg vB c20_f) (T_val (v := (vB false)) (x_bin rfl rfl rfl) ?_)
   refine S_list (T_pickF (v := (vB false)) (congrArg vB c20_f) rfl ?_)
   refine wn (hK18_ _ _ ?_)
   refine C_condF rfl ?_
   refine C_skip (X_then (hK17_ _ _ ?_))
   refine C_seq (fun _ hK21_ => ?_)
   refine cR fun _ hK22_ => ?_
   refine sv (v := (vI .u64 (((f * 8) : Nat) : Int))) (x_move rfl) ?_
   refine sv (v := (vI .u64 0)) (x_bin rfl rfl (congrArg (fun z => some (vI .u64 z)) (v_and0 hf1 hf6))) ?_
   refine wn (hK22_ _ _ ?_)
   refine C_block ?_
   refine cR fun _ hK23_ => ?_
   refine sv (v := (vB true)) (x_bin rfl rfl rfl) ?_
   refine sv (v := (vB true)) (x_assign rfl) ?_
   refine wn (hK23_ _ _ ?_)
   refine C_condT rfl ?_
   refine cR fun _ hK24_ => ?_
   refine sv (v := v9_) (x_move rfl) ?_
   refine S_list (T_call (al := [v9_]) (pre := []) rfl rfl cb147 (tVint R v9_ ((IntKind.u64.wrap x).toNat) rest (RS.set_ he10_ (by first | rfl | (simp [GW.cells, GO.cells, GA.cells, RW.cells, ZR.cells, RV.cells, MR.cells]; done)) (by first | rfl | omega | (simp; done) | (simp; omega))) (by first | assumption | omega) (by simp only [List.length_append]; unfold vi at hl; omega)) H13_ ?_)
   rintro v25_ p31_ w28_ ⟨v26_, rfl, rfl, he27_⟩ S30_ H29_
   have S32_ := Same.trans S16_ S30_
   refine sv (v := (vT #[(vI .u64 ((((IntKind.u64.wrap x).toNat) : Nat) : Int)), v26_, (vB true)])) (x_move rfl) ?_
   refine sv (v := (vI .u64 ((((IntKind.u64.wrap x).toNat) : Nat) : Int))) (by kernel_rfl) ?_
   refine sv (v := v26_) (by kernel_rfl) ?_
   refine sv (v := (vB true)) (by kernel_rfl) ?_
   refine sv (v := (vI .u64 ((((IntKind.u64.wrap x).toNat) : Nat) : Int))) (x_assign rfl) ?_
   refine sv (v := v26_) (x_assign rfl) ?_
   refine sv (v := (vB true)) (x_assign rfl) ?_
   refine wn (hK24_ _ _ ?_)
   refine cR fun _ hK33_ => ?_
   refine sv (v := (vI .u64 (((f * 8) : Nat) : Int))) (x_move rfl) ?_
   refine sv (v := (vI .u64 ((((f * 8) : Nat) : Int) / 8))) (x_shr rfl rfl (by omega) (shrN (by decide) (by decide))) ?_
   refine sv (v := (vI .i64 (f : Int))) (x_convI rfl underlying209 underlying3 (by rw [show (((f * 8 : Nat) : Int)) / 8 = ((f : Nat) : Int) by omega]; exact IntWalk.i64_in _ (by omega))) ?_
   refine sv (v := (vI .u64 ((((IntKind.u64.wrap x).toNat) : Nat) : Int))) (x_move rfl) ?_
   refine sv (v := (vI .i64 x)) (x_convI rfl underlying209 underlying2 (v_back hx0 hx1)) ?_
   refine sv (v := (vA #[(vI .i64 (f : Int)), (vB false), (vI .i64 x), (vS none 0 0)])) (by kernel_rfl) ?_
   refine sv (v := v26_) (x_move rfl) ?_
   refine sm (vB true) ?_
   refine S_list0 (T_storeN (vs := [(vI .i64 (f : Int)), (vB false), (vI .i64 x), (vS none 0 0)]) rfl rfl z259 rfl (by simp [Value.oneCell']) H29_ 1 rfl (Nat.le_of_ble_eq_true (by rfl)) ?_)
   intro w34_ S36_ H35_
   have S37_ := Same.trans S32_ S36_
   refine sv (v := v26_) (x_assign rfl) ?_
   refine sv (v := (vB true)) (x_assign rfl) ?_
   refine wn (hK33_ _ _ ?_)
   refine C_ret (X_blkR (X_thenR ?_))
   refine R_any (v := (vT #[(vA #[(vI .i64 (f : Int)), (vB false), (vI .i64 x), (vS none 0 0)]), v26_, (vB true)])) (run_results3 rfl ⟨_, rfl, load_resN underlying259 rfl z259 rfl (vs := [(vI .i64 (f : Int)), (vB false), (vI .i64 x), (vS none 0 0)]) (Holds.cl_cells H35_ 1 rfl 0 rfl)⟩ rfl rfl) ?_
   have H38_ := Holds.pkF H35_ [0] 1
   exact ⟨_, _, rfl, ⟨v26_, rfl, rfl, (by first | assumption | omega | exact rfl)⟩, S37_, H38_⟩

set_option maxHeartbeats 1600000 in
theorem tTakeB (R : HP) (v : Value) (f : Nat) (u rest : List Int) (hV : RS R 1 v (List.length (vint (f * 8 + 2) ++ (vint (List.length u) ++ (u ++ rest)))) (bytesV (vint (f * 8 + 2) ++ (vint (List.length u) ++ (u ++ rest))))) (hf1 : 1 ≤ f) (hf6 : f ≤ 6) (hl : (vint (f * 8 + 2) ++ (vint (List.length u) ++ (u ++ rest))).length ≤ 1000000000000) :
    TriG Tryz.prog 146 #[v, (vI .i64 0)] R [] (fun R' v__ post__ => ∃ (v' d' : Value), v__ = (vT #[(vA #[(vI .i64 (f : Int)), (vB true), (vI .i64 0), d']), v', (vB true)]) ∧ post__ = [] ∧ (RS R' 1 v' (List.length rest) (bytesV rest)) ∧ (RS R' 1 d' (List.length u) (bytesV u))) := by
 have hap_ : (List.length (u ++ rest)) = u.length + rest.length := by simp
 have hl2_ := hl
 simp only [List.length_append] at hl2_
 refine TriG.into (n := 136) (al := [v, (vI .i64 0)]) func146 rfl ntmps146 rfl rfl fun w F H => ?_
 refine cR fun _ hK1_ => ?_
 refine S_list (T_alloc z259 H ?_)
 intro b2_ w3_ S5_ H4_
 have S6_ := Same.trans (Same.refl w) S5_
 refine sv (v := (vS none 0 0)) (x_assign rfl) ?_
 refine sv (v := (vB false)) (x_assign rfl) ?_
 refine wn (hK1_ _ _ ?_)
 refine cR fun _ hK7_ => ?_
 refine sv (v := v) (x_move rfl) ?_
 have H11_ := ((Holds.bring H4_ 1 rfl) :)
 refine S_list (T_call (al := [v]) (pre := []) rfl rfl cb147 (tVint R v (f * 8 + 2) (vint (List.length u) ++ (u ++ rest)) hV (by first | assumption | omega) (hl)) H11_ ?_)
 rintro v8_ p15_ w12_ ⟨v9_, rfl, rfl, he10_⟩ S14_ H13_
 have S16_ := Same.trans S6_ S14_
 refine sv (v := (vT #[(vI .u64 (((f * 8 + 2) : Nat) : Int)), v9_, (vB true)])) (x_move rfl) ?_
 refine sv (v := (vI .u64 (((f * 8 + 2) : Nat) : Int))) (by kernel_rfl) ?_
 refine sv (v := v9_) (by kernel_rfl) ?_
 refine sv (v := (vB true)) (by kernel_rfl) ?_
 refine sv (v := (vI .u64 (((f * 8 + 2) : Nat) : Int))) (x_assign rfl) ?_
 refine sv (v := v9_) (x_assign rfl) ?_
 refine sv (v := (vB true)) (x_assign rfl) ?_
 refine wn (hK7_ _ _ ?_)
 refine C_seq (fun _ hK17_ => ?_)
 refine cR fun _ hK18_ => ?_
 refine sm (vB true) ?_
 refine sv (v := (vB false)) (x_cast (x_not (b := true) rfl) rfl) ?_
 refine sm (vB false) ?_
 refine S_yes (j := 2) (dj := 26) (b := false) rfl rfl rfl (T_val (v := (vI .u64 (((f * 8 + 2) : Nat) : Int))) (x_move rfl) ?_)
 refine S_yes (j := 2) (dj := 26) (b := false) rfl rfl rfl (T_val (v := (vI .u64 ((((f * 8 + 2) : Nat) : Int) / 8))) (x_shr rfl rfl (by omega) (shrN (by decide) (by decide))) ?_)
 refine S_yes (j := 2) (dj := 26) (b := false) rfl rfl rfl (T_val (v := (vB (decide ((((f * 8 + 2) : Nat) : Int) / 8 = 0)))) (x_bin rfl rfl rfl) ?_)
 refine S_list (T_pickF (v := (vB (decide ((((f * 8 + 2) : Nat) : Int) / 8 = 0)))) rfl rfl ?_)
 refine sv (v := (vB (decide ((((f * 8 + 2) : Nat) : Int) / 8 = 0)))) (x_move rfl) ?_
 rcases Bool.eq_false_or_eq_true (decide ((((f * 8 + 2) : Nat) : Int) / 8 = 0)) with c19_t | c19_f
 ·have c19_tp : (((f * 8 + 2) : Nat) : Int) / 8 = 0 := of_decide_eq_true c19_t
  omega
 ·have c19_fp : ¬ ((((f * 8 + 2) : Nat) : Int) / 8 = 0) := of_decide_eq_false c19_f
  refine S_yes (j := 7) (dj := 31) (b := false) rfl rfl (congrArg vB c19_f) (T_val (v := (vI .u64 (((f * 8 + 2) : Nat) : Int))) (x_move rfl) ?_)
  refine S_yes (j := 7) (dj := 31) (b := false) rfl rfl (congrArg vB c19_f) (T_val (v := (vI .u64 ((((f * 8 + 2) : Nat) : Int) / 8))) (x_shr rfl rfl (by omega) (shrN (by decide) (by decide))) ?_)
  refine S_yes (j := 7) (dj := 31) (b := false) rfl rfl (congrArg vB c19_f) (T_val (v := (vB (decide (536870911 < (((f * 8 + 2) : Nat) : Int) / 8)))) (x_bin rfl rfl rfl) ?_)
  refine S_list (T_pickF (v := (vB (decide (536870911 < (((f * 8 + 2) : Nat) : Int) / 8)))) (congrArg vB c19_f) rfl ?_)
  refine sv (v := (vB (decide (536870911 < (((f * 8 + 2) : Nat) : Int) / 8)))) (x_move rfl) ?_
  rcases Bool.eq_false_or_eq_true (decide (536870911 < (((f * 8 + 2) : Nat) : Int) / 8)) with c20_t | c20_f
  ·have c20_tp : 536870911 < (((f * 8 + 2) : Nat) : Int) / 8 := of_decide_eq_true c20_t
   omega
  ·have c20_fp : ¬ (536870911 < (((f * 8 + 2) : Nat) : Int) / 8) := of_decide_eq_false c20_f
   refine S_yes (j := 12) (dj := 36) (b := false) rfl rfl (congrArg vB c20_f) (T_val (v := (vI .i64 0)) (x_move rfl) ?_)
   refine S_yes (j := 12) (dj := 36) (b := false) rfl rfl (congrArg vB c20_f) (T_val (v := (vB false)) (x_bin rfl rfl rfl) ?_)
   refine S_list (T_pickF (v := (vB false)) (congrArg vB c20_f) rfl ?_)
   refine wn (hK18_ _ _ ?_)
   refine C_condF rfl ?_
   refine C_skip (X_then (hK17_ _ _ ?_))
   refine C_seq (fun _ hK21_ => ?_)
   refine cR fun _ hK22_ => ?_
   refine sv (v := (vI .u64 (((f * 8 + 2) : Nat) : Int))) (x_move rfl) ?_
   refine sv (v := (vI .u64 2)) (x_bin rfl rfl (congrArg (fun z => some (vI .u64 z)) (v_and2 hf1 hf6))) ?_
   refine wn (hK22_ _ _ ?_)
   refine C_block ?_
   refine cR fun _ hK23_ => ?_
   refine sv (v := (vB false)) (x_bin rfl rfl rfl) ?_
   refine sv (v := (vB false)) (x_assign rfl) ?_
   refine wn (hK23_ _ _ ?_)
   refine C_condF rfl ?_
   refine cR fun _ hK24_ => ?_
   refine sv (v := (vB false)) (x_bin rfl rfl rfl) ?_
   refine sv (v := (vB false)) (x_assign rfl) ?_
   refine wn (hK24_ _ _ ?_)
   refine C_condF rfl ?_
   refine cR fun _ hK25_ => ?_
   refine sv (v := (vB true)) (x_bin rfl rfl rfl) ?_
   refine sv (v := (vB true)) (x_assign rfl) ?_
   refine wn (hK25_ _ _ ?_)
   refine C_condT rfl ?_
   refine cR fun _ hK26_ => ?_
   refine sv (v := v9_) (x_move rfl) ?_
   refine S_list (T_call (al := [v9_]) (pre := []) rfl rfl cb147 (tVint R v9_ (List.length u) (u ++ rest) he10_ (by first | assumption | omega) (by simp only [List.length_append]; omega)) H13_ ?_)
   rintro v27_ p33_ w30_ ⟨v28_, rfl, rfl, he29_⟩ S32_ H31_
   have S34_ := Same.trans S16_ S32_
   refine sv (v := (vT #[(vI .u64 (((List.length u) : Nat) : Int)), v28_, (vB true)])) (x_move rfl) ?_
   refine sv (v := (vI .u64 (((List.length u) : Nat) : Int))) (by kernel_rfl) ?_
   refine sv (v := v28_) (by kernel_rfl) ?_
   refine sv (v := (vB true)) (by kernel_rfl) ?_
   refine sv (v := (vI .u64 (((List.length u) : Nat) : Int))) (x_assign rfl) ?_
   refine sv (v := v28_) (x_assign rfl) ?_
   refine sv (v := (vB true)) (x_assign rfl) ?_
   refine wn (hK26_ _ _ ?_)
   refine C_seq (fun _ hK35_ => ?_)
   refine cR fun _ hK36_ => ?_
   refine sm (vB true) ?_
   refine sv (v := (vB false)) (x_cast (x_not (b := true) rfl) rfl) ?_
   refine sm (vB false) ?_
   refine S_yes (j := 2) (dj := 76) (b := false) rfl rfl rfl (T_val (v := (vI .u64 (((List.length u) : Nat) : Int))) (x_move rfl) ?_)
   refine S_yes (j := 2) (dj := 76) (b := false) rfl rfl rfl (T_val (v := v28_) (x_move rfl) ?_)
   refine S_yes (j := 2) (dj := 76) (b := false) rfl rfl rfl (T_val (v := (vI .i64 ((List.length (u ++ rest)) : Int))) (x_lenRS rfl he29_ underlying101) ?_)
   refine S_yes (j := 2) (dj := 76) (b := false) rfl rfl rfl (T_val (v := (vI .u64 ((List.length (u ++ rest) : Nat) : Int))) (x_convI rfl underlying3 underlying209 (by simp only [List.length_append]; rw [wrap_u64]; omega)) ?_)
   refine S_yes (j := 2) (dj := 76) (b := false) rfl rfl rfl (T_val (v := (vB (decide (((List.length (u ++ rest) : Nat) : Int) < (((List.length u) : Nat) : Int))))) (x_bin rfl rfl rfl) ?_)
   refine S_list (T_pickF (v := (vB (decide (((List.length (u ++ rest) : Nat) : Int) < (((List.length u) : Nat) : Int))))) rfl rfl ?_)
   refine wn (hK36_ _ _ ?_)
   refine C_cond (b := decide (((List.length (u ++ rest) : Nat) : Int) < (((List.length u) : Nat) : Int))) rfl (fun c37_t => ?_) (fun c37_f => ?_)
   ·have c37_tp : ((List.length (u ++ rest) : Nat) : Int) < (((List.length u) : Nat) : Int) := of_decide_eq_true c37_t
    omega
   ·have c37_fp : ¬ (((List.length (u ++ rest) : Nat) : Int) < (((List.length u) : Nat) : Int)) := of_decide_eq_false c37_f
    refine C_skip (X_then (hK35_ _ _ ?_))
    refine C_seq (fun _ hK38_ => ?_)
    refine A_start (S := fun w => Sub R (hp w)) (N := 15) foll rfl rfl ?_
    have H39_ := Holds.drew_ H31_
    have hq40_ := ((Holds.ro_at H39_ 0 rfl))
    refine A_tk 0 (v := (vI .u64 (((f * 8 + 2) : Nat) : Int))) rfl (by kernel_rfl) (fun w hS => x_move rfl) hq40_ ?_
    refine A_tk 1 (v := (vI .u64 ((((f * 8 + 2) : Nat) : Int) / 8))) rfl (by kernel_rfl) (fun w hS => x_shr rfl rfl (by omega) (shrN (by decide) (by decide))) hq40_ ?_
    refine A_tk 2 (v := (vI .i64 (f : Int))) rfl (by kernel_rfl) (fun w hS => x_convI rfl underlying209 underlying3 (by rw [show (((f * 8 + 2 : Nat) : Int)) / 8 = ((f : Nat) : Int) by omega]; exact IntWalk.i64_in _ (by omega))) hq40_ ?_
    refine A_tk 4 (v := v28_) rfl (by kernel_rfl) (fun w hS => x_move rfl) hq40_ ?_
    refine A_tk 5 (v := (vI .u64 (((List.length u) : Nat) : Int))) rfl (by kernel_rfl) (fun w hS => x_move rfl) hq40_ ?_
    refine A_tk 6 (v := (slc v28_ 0 ((List.length u)) 1)) rfl (by kernel_rfl) (fun w hS => x_sliceRS (l := 0) (h := ((List.length u))) rfl he29_ underlying101 z5 (by omega) ⟨_, _, rfl, by omega, by omega, by omega⟩ rfl) hq40_ ?_
    refine A_tk 9 (v := v28_) rfl (by kernel_rfl) (fun w hS => x_move rfl) hq40_ ?_
    refine A_tk 10 (v := (vI .u64 (((List.length u) : Nat) : Int))) rfl (by kernel_rfl) (fun w hS => x_move rfl) hq40_ ?_
    refine A_tk 11 (v := (slc v28_ ((List.length u)) (List.length (u ++ rest)) 1)) rfl (by kernel_rfl) (fun w hS => x_sliceRS (l := ((List.length u))) (h := (List.length (u ++ rest))) rfl he29_ underlying101 z5 (by omega) rfl ⟨_, _, rfl, by omega, by omega, by omega⟩) hq40_ ?_
    refine A_ready (i := 3) (rs := []) (by kernel_rfl) ?_
    refine AllR.cons ?_ AllR.nil
    refine A_op (ls' := #[true, true, true, true, true, true, true, false, false, true, true, true, false, false, false]) rfl (by kernel_rfl) (T_new (obj := .cells #[] 5) (f := fun b__ => .slice (some ⟨b__, 0, none⟩) 0 0) (A := fun b__ => cl b__ 5 []) (by kernel_rfl) (fun l h => h.alloc _ _) H39_ ?_)
    intro b41_ w42_ S44_ H43_
    have S45_ := Same.trans (Same.trans S34_ (Same.drew _)) S44_
    refine ⟨((Holds.ro_at H43_ 1 rfl)), ?_⟩
    refine A_ready (i := 7) (rs := []) (by kernel_rfl) ?_
    refine AllR.cons ?_ AllR.nil
    have H46_ : Holds w42_ (cl b41_ 5 ([] ++ [] ++ []) :: ro R :: cl b2_ 259 [(vI .i64 0), (vB false), (vI .i64 0), (vS none 0 0)] :: F) := cast1 (P := fun (c__ : List Value) => Holds w42_ (cl b41_ 5 c__ :: ro R :: cl b2_ 259 [(vI .i64 0), (vB false), (vI .i64 0), (vS none 0 0)] :: F)) (by kernel_rfl : [] = [] ++ [] ++ []) H43_
    have H47_ : Holds w42_ (sl 5 1 (vS (some ⟨b41_, 0, none⟩) 0 0) 0 [] :: ro R :: cl b2_ 259 [(vI .i64 0), (vB false), (vI .i64 0), (vS none 0 0)] :: F) := Holds.to_sl H46_ 0 [] [] (xs := []) (m := 0) (cap := 0) (sz := 1) rfl (by kernel_rfl) (by kernel_rfl) (by omega)
    refine A_op (ls' := #[true, true, true, true, true, true, true, true, false, true, true, true, false, false, false]) rfl (by kernel_rfl) (T_append rfl rfl underlying101 z5 rfl (by decide) H47_ 0 rfl (RS.src (RS.slcB he29_ (by omega : 0 ≤ ((List.length u))) (by omega : ((List.length u)) ≤ (List.length (u ++ rest)))) (Holds.ro_at H47_ 1 rfl) underlying101 (one_bytes _)) (by first | omega | (simp only [List.length_append, List.length_cons, List.length_nil]; omega)) ?_)
    intro v48_ w49_ S51_ H50_
    have S52_ := Same.trans S45_ S51_
    have H53_ := Holds.resl H50_ 0 rfl (by simp [bytesV] : [] ++ (bytesV ((List.drop 0 (u ++ rest)).take (((List.length u)) - 0))) = bytesV ((List.drop 0 (u ++ rest)).take (((List.length u)) - 0))) (by first | (simp; done) | (simp; omega) | (have := RS.blen (RS.slcB he29_ (by omega : 0 ≤ ((List.length u))) (by omega : ((List.length u)) ≤ (List.length (u ++ rest)))); simp; omega) : 0 + (((List.length u)) - 0) = (List.length ((List.drop 0 (u ++ rest)).take (((List.length u)) - 0))))
    obtain ⟨-, a54_, cp55_, rfl, hle56_⟩ := Holds.sl_len H53_ 0 rfl
    refine ⟨((Holds.ro_at H53_ 1 rfl)), ?_⟩
    have hq57_ := ((Holds.ro_at H53_ 1 rfl))
    refine A_tk 8 (v := (vA #[(vI .i64 (f : Int)), (vB true), (vI .i64 0), (vS a54_ (List.length ((List.drop 0 (u ++ rest)).take (((List.length u)) - 0))) cp55_)])) rfl (by kernel_rfl) (fun w hS => by kernel_rfl) hq57_ ?_
    refine A_ready (i := 12) (rs := []) (by kernel_rfl) ?_
    refine AllR.cons ?_ AllR.nil
    refine A_op0 (ls' := #[true, true, true, true, true, true, true, true, true, true, true, true, true, false, false]) rfl (by kernel_rfl) (T_storeN (vs := [(vI .i64 (f : Int)), (vB true), (vI .i64 0), (vS a54_ (List.length ((List.drop 0 (u ++ rest)).take (((List.length u)) - 0))) cp55_)]) rfl rfl z259 rfl (by simp [Value.oneCell']) H53_ 2 rfl (Nat.le_of_ble_eq_true (by rfl)) ?_)
    intro w58_ S60_ H59_
    have S61_ := Same.trans S52_ S60_
    refine ⟨((Holds.ro_at H59_ 1 rfl)), ?_⟩
    have hq62_ := ((Holds.ro_at H59_ 1 rfl))
    refine A_tk 13 (v := (slc v28_ ((List.length u)) (List.length (u ++ rest)) 1)) rfl (by kernel_rfl) (fun w hS => x_assign rfl) hq62_ ?_
    refine A_tk 14 (v := (vB true)) rfl (by kernel_rfl) (fun w hS => x_assign rfl) hq62_ ?_
    refine A_done (by kernel_rfl) ?_
    refine (X_then (hK38_ _ _ ?_))
    refine C_ret (X_blkR (X_thenR ?_))
    refine R_any (v := (vT #[(vA #[(vI .i64 (f : Int)), (vB true), (vI .i64 0), (vS a54_ (List.length ((List.drop 0 (u ++ rest)).take (((List.length u)) - 0))) cp55_)]), (slc v28_ ((List.length u)) (List.length (u ++ rest)) 1), (vB true)])) (run_results3 rfl ⟨_, rfl, load_resN underlying259 rfl z259 rfl (vs := [(vI .i64 (f : Int)), (vB true), (vI .i64 0), (vS a54_ (List.length ((List.drop 0 (u ++ rest)).take (((List.length u)) - 0))) cp55_)]) (Holds.cl_cells H59_ 2 rfl 0 rfl)⟩ rfl rfl) ?_
    have H63_ := ((Holds.bring H59_ 1 rfl) :)
    obtain ⟨R64_, hs65_, ⟨R66_, ha67_, hs68_⟩, H69_⟩ := Holds.gift H63_
    have hr70_ : RS R64_ 1 (vS a54_ (List.length ((List.drop 0 (u ++ rest)).take (((List.length u)) - 0))) cp55_) (List.length ((List.drop 0 (u ++ rest)).take (((List.length u)) - 0))) (bytesV ((List.drop 0 (u ++ rest)).take (((List.length u)) - 0))) := (sl_RS ha67_ (Sub.rfl' _)).mono hs68_
    have H71_ := Holds.pkF H69_ [0] 1
    exact ⟨R64_, _, _, rfl, hs65_, ⟨slc v28_ ((List.length u)) (List.length (u ++ rest)) 1, (vS a54_ (List.length ((List.drop 0 (u ++ rest)).take (((List.length u)) - 0))) cp55_), (congrArg (fun l => vT (List.toArray l)) (lcons (congrArg (fun l => vA (List.toArray l)) (lcons rfl (lcons rfl (lcons rfl (lcons (rfl : (vS a54_ (List.length ((List.drop 0 (u ++ rest)).take (((List.length u)) - 0))) cp55_) = ((vS a54_ (List.length ((List.drop 0 (u ++ rest)).take (((List.length u)) - 0))) cp55_))) rfl))))) (lcons (rfl : (slc v28_ ((List.length u)) (List.length (u ++ rest)) 1) = ((slc v28_ ((List.length u)) (List.length (u ++ rest)) 1))) rfl))), rfl, (RS.set_ (RS.mono (RS.slcB he29_ (by omega : ((List.length u)) ≤ (List.length (u ++ rest))) (by omega : (List.length (u ++ rest)) ≤ (List.length (u ++ rest)))) hs65_) (by simp) (by simp)), (RS.set_ hr70_ (by first | rfl | simp) (by first | rfl | simp))⟩, S61_, H71_⟩
end Go.Proofs.YtlnihndjepjagaaGreat
set_option linter.unusedVariables false
set_option linter.unusedSimpArgs false
namespace Go.Proofs.YtlnihndjepjagaaGreat
open Go Go.RowKit Gw Tryz
open Go.Value renaming int → vI, bool → vB, slice → vS, pointer → vP, agg → vA, tuple → vT

set_option maxHeartbeats 1600000 in
theorem tTKI (R : HP) (v : Value) (f : Nat) (x : Int) (rest : List Int) (hV : RS R 1 v (List.length (vint (f * 8) ++ (vi x ++ rest))) (bytesV (vint (f * 8) ++ (vi x ++ rest)))) (hf1 : 1 ≤ f) (hf6 : f ≤ 6) (hx0 : -9223372036854775808 ≤ x) (hx1 : x < 9223372036854775808) (hl : (vint (f * 8) ++ (vi x ++ rest)).length ≤ 1000000000000) :
    TriG Tryz.prog 144 #[v] R [] (fun R' v__ post__ => ∃ (v' : Value), v__ = (vT #[(vA #[(vI .i64 (f : Int)), (vB false), (vI .i64 x), (vS none 0 0)]), v', (vB true)]) ∧ post__ = [] ∧ (RS R' 1 v' (List.length rest) (bytesV rest))) := by
 refine TriG.into (n := 10) (al := [v]) func144 rfl ntmps144 rfl rfl fun w F H => ?_
 refine cR fun _ hK1_ => ?_
 refine S_list (T_alloc z259 H ?_)
 intro b2_ w3_ S5_ H4_
 have S6_ := Same.trans (Same.refl w) S5_
 refine sv (v := (vS none 0 0)) (x_assign rfl) ?_
 refine sv (v := (vB false)) (x_assign rfl) ?_
 refine wn (hK1_ _ _ ?_)
 refine cR fun _ hK7_ => ?_
 refine sv (v := v) (x_move rfl) ?_
 have H11_ := ((Holds.bring H4_ 1 rfl) :)
 refine S_list (T_call (al := [v, (vI .i64 0)]) (pre := []) rfl rfl cb146 (tTakeI R v f x rest hV (by first | assumption | omega) (by first | assumption | omega) (by first | assumption | omega) (by first | assumption | omega) (hl)) H11_ ?_)
 rintro v8_ p15_ w12_ ⟨v9_, rfl, rfl, he10_⟩ S14_ H13_
 have S16_ := Same.trans S6_ S14_
 refine sv (v := (vA #[(vI .i64 (f : Int)), (vB false), (vI .i64 x), (vS none 0 0)])) (by kernel_rfl) ?_
 refine sv (v := v9_) (by kernel_rfl) ?_
 refine sv (v := (vB true)) (by kernel_rfl) ?_
 refine S_list0 (T_storeN (vs := [(vI .i64 (f : Int)), (vB false), (vI .i64 x), (vS none 0 0)]) rfl rfl z259 rfl (by simp [Value.oneCell']) H13_ 1 rfl (Nat.le_of_ble_eq_true (by rfl)) ?_)
 intro w17_ S19_ H18_
 have S20_ := Same.trans S16_ S19_
 refine sv (v := v9_) (x_assign rfl) ?_
 refine sv (v := (vB true)) (x_assign rfl) ?_
 refine wn (hK7_ _ _ ?_)
 refine C_ret ?_
 refine R_any (v := (vT #[(vA #[(vI .i64 (f : Int)), (vB false), (vI .i64 x), (vS none 0 0)]), v9_, (vB true)])) (run_results3 rfl ⟨_, rfl, load_resN underlying259 rfl z259 rfl (vs := [(vI .i64 (f : Int)), (vB false), (vI .i64 x), (vS none 0 0)]) (Holds.cl_cells H18_ 1 rfl 0 rfl)⟩ rfl rfl) ?_
 have H21_ := Holds.pkF H18_ [0] 1
 exact ⟨R, _, _, rfl, (Sub.rfl' _), ⟨v9_, rfl, rfl, (he10_)⟩, S20_, H21_⟩

set_option maxHeartbeats 1600000 in
theorem tTKB (R : HP) (v : Value) (f : Nat) (u rest : List Int) (hV : RS R 1 v (List.length (vint (f * 8 + 2) ++ (vint (List.length u) ++ (u ++ rest)))) (bytesV (vint (f * 8 + 2) ++ (vint (List.length u) ++ (u ++ rest))))) (hf1 : 1 ≤ f) (hf6 : f ≤ 6) (hl : (vint (f * 8 + 2) ++ (vint (List.length u) ++ (u ++ rest))).length ≤ 1000000000000) :
    TriG Tryz.prog 144 #[v] R [] (fun R' v__ post__ => ∃ (v' d' : Value), v__ = (vT #[(vA #[(vI .i64 (f : Int)), (vB true), (vI .i64 0), d']), v', (vB true)]) ∧ post__ = [] ∧ (RS R' 1 v' (List.length rest) (bytesV rest)) ∧ (RS R' 1 d' (List.length u) (bytesV u))) := by
 refine TriG.into (n := 10) (al := [v]) func144 rfl ntmps144 rfl rfl fun w F H => ?_
 refine cR fun _ hK1_ => ?_
 refine S_list (T_alloc z259 H ?_)
 intro b2_ w3_ S5_ H4_
 have S6_ := Same.trans (Same.refl w) S5_
 refine sv (v := (vS none 0 0)) (x_assign rfl) ?_
 refine sv (v := (vB false)) (x_assign rfl) ?_
 refine wn (hK1_ _ _ ?_)
 refine cR fun _ hK7_ => ?_
 refine sv (v := v) (x_move rfl) ?_
 have H15_ := ((Holds.bring H4_ 1 rfl) :)
 refine S_list (T_callG (al := [v, (vI .i64 0)]) (pre := []) rfl rfl cb146 (tTakeB R v f u rest hV (by first | assumption | omega) (by first | assumption | omega) (hl)) H15_ ?_)
 rintro R9_ v10_ p19_ w16_ hs8_ ⟨v11_, d12_, rfl, rfl, he13_, he14_⟩ S18_ H17_
 have S20_ := Same.trans S6_ S18_
 refine sv (v := (vA #[(vI .i64 (f : Int)), (vB true), (vI .i64 0), d12_])) (by kernel_rfl) ?_
 refine sv (v := v11_) (by kernel_rfl) ?_
 refine sv (v := (vB true)) (by kernel_rfl) ?_
 refine S_list0 (T_storeN (vs := [(vI .i64 (f : Int)), (vB true), (vI .i64 0), d12_]) rfl rfl z259 rfl (List.forall_mem_cons.2 ⟨rfl, (List.forall_mem_cons.2 ⟨rfl, (List.forall_mem_cons.2 ⟨rfl, (List.forall_mem_cons.2 ⟨(RS.one he14_), (fun _ h__ => by cases h__)⟩)⟩)⟩)⟩) H17_ 1 rfl (Nat.le_of_ble_eq_true (by rfl)) ?_)
 intro w21_ S23_ H22_
 have S24_ := Same.trans S20_ S23_
 refine sv (v := v11_) (x_assign rfl) ?_
 refine sv (v := (vB true)) (x_assign rfl) ?_
 refine wn (hK7_ _ _ ?_)
 refine C_ret ?_
 refine R_any (v := (vT #[(vA #[(vI .i64 (f : Int)), (vB true), (vI .i64 0), d12_]), v11_, (vB true)])) (run_results3 rfl ⟨_, rfl, load_resN underlying259 rfl z259 rfl (vs := [(vI .i64 (f : Int)), (vB true), (vI .i64 0), d12_]) (Holds.cl_cells H22_ 1 rfl 0 rfl)⟩ rfl rfl) ?_
 have H25_ := Holds.pkF H22_ [0] 1
 exact ⟨R9_, _, _, rfl, hs8_, ⟨v11_, d12_, rfl, rfl, (he13_), (he14_)⟩, S24_, H25_⟩

theorem tTake (R : HP) (v : Value) (x : FD) (rest : List Int) (hV : RS R 1 v (List.length (x.enc ++ rest)) (bytesV (x.enc ++ rest))) (hx : x.Ok) (hl : (x.enc ++ rest).length ≤ 1000000000000) :
    TriG Tryz.prog 144 #[v] R [] (fun R' v__ post__ => ∃ (v' d' : Value), v__ = (vT #[(vA #[(vI .i64 ((x.num : Nat) : Int)), (vB x.isB), (vI .i64 x.i), d']), v', (vB true)]) ∧ post__ = [] ∧ (RS R' 1 v' (List.length rest) (bytesV rest)) ∧ (RS R' 1 d' (List.length x.data) (bytesV x.data))) := by
  obtain ⟨f, b, i, u⟩ := x
  cases b
  · have h := hx.d rfl
    simp only at h
    subst h
    rw [FD.enc_i rest rfl] at hV hl
    refine TriG.mono (tTKI R v f i rest hV hx.n1 hx.n6 hx.i0 hx.i1 hl) fun R' v2 l q => ?_
    obtain ⟨v', e1, e2, e3⟩ := q
    exact ⟨v', .slice none 0 0, e1, e2, e3, RS.nil _ _⟩
  · have h := hx.b rfl
    simp only at h
    subst h
    rw [FD.enc_b] at hV hl
    refine TriG.mono (tTKB R v f u rest hV hx.n1 hx.n6 hl) fun R' v2 l q => ?_
    obtain ⟨v', d', e1, e2, e3, e4⟩ := q
    exact ⟨v', d', e1, e2, e3, e4⟩
end Go.Proofs.YtlnihndjepjagaaGreat
set_option linter.unusedVariables false
set_option linter.unusedSimpArgs false
namespace Go.Proofs.YtlnihndjepjagaaGreat
open Go Go.RowKit Gw Tryz
open Go.Value renaming int → vI, bool → vB, slice → vS, pointer → vP, agg → vA, tuple → vT

/-! ### A key-value's fields -/
structure MS where
  ks : List Int
  cr : Int
  md : Int
  ver : Int
  vs : List Int
  le : Int
def MS.put (s : MS) (x : FD) : MS :=
  if x.num = 1 then ⟨x.data, s.cr, s.md, s.ver, s.vs, s.le⟩ else if x.num = 2 then ⟨s.ks, x.i, s.md, s.ver, s.vs, s.le⟩
  else if x.num = 3 then ⟨s.ks, s.cr, x.i, s.ver, s.vs, s.le⟩ else if x.num = 4 then ⟨s.ks, s.cr, s.md, x.i, s.vs, s.le⟩
  else if x.num = 5 then ⟨s.ks, s.cr, s.md, s.ver, x.data, s.le⟩ else ⟨s.ks, s.cr, s.md, s.ver, s.vs, x.i⟩
theorem MS.put1 {s : MS} {x : FD} (h : x.num = 1) : s.put x = ⟨x.data, s.cr, s.md, s.ver, s.vs, s.le⟩ := by unfold MS.put; rw [if_pos h]
theorem MS.put2 {s : MS} {x : FD} (h : x.num = 2) : s.put x = ⟨s.ks, x.i, s.md, s.ver, s.vs, s.le⟩ := by unfold MS.put; rw [if_neg (by omega), if_pos h]
theorem MS.put3 {s : MS} {x : FD} (h : x.num = 3) : s.put x = ⟨s.ks, s.cr, x.i, s.ver, s.vs, s.le⟩ := by unfold MS.put; rw [if_neg (by omega), if_neg (by omega), if_pos h]
theorem MS.put4 {s : MS} {x : FD} (h : x.num = 4) : s.put x = ⟨s.ks, s.cr, s.md, x.i, s.vs, s.le⟩ := by unfold MS.put; rw [if_neg (by omega), if_neg (by omega), if_neg (by omega), if_pos h]
theorem MS.put5 {s : MS} {x : FD} (h : x.num = 5) : s.put x = ⟨s.ks, s.cr, s.md, s.ver, x.data, s.le⟩ := by unfold MS.put; rw [if_neg (by omega), if_neg (by omega), if_neg (by omega), if_neg (by omega), if_pos h]
theorem MS.put6 {s : MS} {x : FD} (h : x.num = 6) : s.put x = ⟨s.ks, s.cr, s.md, s.ver, s.vs, x.i⟩ := by unfold MS.put; rw [if_neg (by omega), if_neg (by omega), if_neg (by omega), if_neg (by omega), if_neg (by omega)]
def MS0 : MS := ⟨[], 0, 0, 0, [], 0⟩
def MSf (l : List FD) : MS := l.foldl MS.put MS0
def flds (ks vs : List Int) (cr md ver le : Int) : List FD :=
  (if ks = [] then [] else [⟨1, true, 0, ks⟩]) ++ (if cr = 0 then [] else [⟨2, false, cr, []⟩]) ++ (if md = 0 then [] else [⟨3, false, md, []⟩]) ++ (if ver = 0 then [] else [⟨4, false, ver, []⟩]) ++ (if vs = [] then [] else [⟨5, true, 0, vs⟩]) ++ (if le = 0 then [] else [⟨6, false, le, []⟩])
theorem enc_byt {f : Nat} {u : List Int} (h : u.length < 18446744073709551616) : pbyt f u = FD.encs (if u = [] then [] else [⟨f, true, 0, u⟩]) := by
  unfold pbyt
  split
  · rfl
  · simp [FD.encs, FD.enc, vi_nat h]
theorem enc_int {f : Nat} {x : Int} : pint f x = FD.encs (if x = 0 then [] else [⟨f, false, x, []⟩]) := by
  unfold pint
  split
  · rfl
  · simp [FD.encs, FD.enc]
theorem encs_app (a b : List FD) : FD.encs (a ++ b) = FD.encs a ++ FD.encs b := by simp [FD.encs]
theorem kvb_encs {ks vs : List Int} {cr md ver le : Int} (h1 : ks.length < 18446744073709551616) (h2 : vs.length < 18446744073709551616) : kvb ks vs cr md ver le = FD.encs (flds ks vs cr md ver le) := by
  unfold kvb flds
  rw [enc_byt h1, enc_byt h2, enc_int, enc_int, enc_int, enc_int]
  simp only [encs_app]
theorem MSf_flds (ks vs : List Int) (cr md ver le : Int) : MSf (flds ks vs cr md ver le) = ⟨ks, cr, md, ver, vs, le⟩ := by
  unfold MSf flds
  simp only [List.foldl_append]
  have e1 : List.foldl MS.put MS0 (if ks = [] then [] else [⟨1, true, 0, ks⟩]) = ⟨ks, 0, 0, 0, [], 0⟩ := by
    split
    · rename_i h; rw [h]; rfl
    · rfl
  rw [e1]
  have e2 : List.foldl MS.put ⟨ks, 0, 0, 0, [], 0⟩ (if cr = 0 then [] else [⟨2, false, cr, []⟩]) = ⟨ks, cr, 0, 0, [], 0⟩ := by
    split
    · rename_i h; rw [h]; rfl
    · rfl
  rw [e2]
  have e3 : List.foldl MS.put ⟨ks, cr, 0, 0, [], 0⟩ (if md = 0 then [] else [⟨3, false, md, []⟩]) = ⟨ks, cr, md, 0, [], 0⟩ := by
    split
    · rename_i h; rw [h]; rfl
    · rfl
  rw [e3]
  have e4 : List.foldl MS.put ⟨ks, cr, md, 0, [], 0⟩ (if ver = 0 then [] else [⟨4, false, ver, []⟩]) = ⟨ks, cr, md, ver, [], 0⟩ := by
    split
    · rename_i h; rw [h]; rfl
    · rfl
  rw [e4]
  have e5 : List.foldl MS.put ⟨ks, cr, md, ver, [], 0⟩ (if vs = [] then [] else [⟨5, true, 0, vs⟩]) = ⟨ks, cr, md, ver, vs, 0⟩ := by
    split
    · rename_i h; rw [h]; rfl
    · rfl
  rw [e5]
  split
  · rename_i h; rw [h]; rfl
  · rfl
def i64 (x : Int) : Prop := -9223372036854775808 ≤ x ∧ x < 9223372036854775808
theorem flds_ok {ks vs : List Int} {cr md ver le : Int} (h1 : i64 cr) (h2 : i64 md) (h3 : i64 ver) (h4 : i64 le) : ∀ x ∈ flds ks vs cr md ver le, x.Ok := by
  have hb : ∀ (f : Nat) (u : List Int), f = 1 ∨ f = 5 → ∀ x ∈ (if u = [] then [] else [(⟨f, true, 0, u⟩ : FD)]), x.Ok := by
    intro f u hf x hx
    split at hx
    · cases hx
    · rw [List.mem_singleton.1 hx]
      exact ⟨show 1 ≤ f by omega, show f ≤ 6 by omega, fun _ => rfl, fun h => (by cases h), ⟨fun _ => hf, fun _ => rfl⟩, show (-9223372036854775808 : Int) ≤ 0 by omega, show (0 : Int) < _ by omega⟩
  have hi : ∀ (f : Nat) (y : Int), f = 2 ∨ f = 3 ∨ f = 4 ∨ f = 6 → i64 y → ∀ x ∈ (if y = 0 then [] else [(⟨f, false, y, []⟩ : FD)]), x.Ok := by
    intro f y hf hy x hx
    split at hx
    · cases hx
    · rw [List.mem_singleton.1 hx]
      exact ⟨show 1 ≤ f by omega, show f ≤ 6 by omega, fun h => (by cases h), fun _ => rfl, ⟨fun h => (by cases h), fun h => by have h' : f = 1 ∨ f = 5 := h; omega⟩, hy.1, hy.2⟩
  intro x hx
  unfold flds at hx
  simp only [List.mem_append] at hx
  rcases hx with ((((hx | hx) | hx) | hx) | hx) | hx
  · exact hb 1 ks (.inl rfl) x hx
  · exact hi 2 cr (.inl rfl) h1 x hx
  · exact hi 3 md (.inr (.inl rfl)) h2 x hx
  · exact hi 4 ver (.inr (.inr (.inl rfl))) h3 x hx
  · exact hb 5 vs (.inr rfl) x hx
  · exact hi 6 le (.inr (.inr (.inr rfl))) h4 x hx
theorem enc_pos (x : FD) : 0 < (x.enc).length := by
  unfold FD.enc
  split <;> rw [vint_cons] <;> simp
theorem encs_ne {l : List FD} (h : (0 : Int) < ((FD.encs l).length : Int)) : ∃ x l', l = x :: l' := by
  cases l with
  | nil => simp [FD.encs] at h
  | cons x l' => exact ⟨x, l', rfl⟩
theorem encs_nil {l : List FD} (h : ¬ (0 : Int) < ((FD.encs l).length : Int)) : l = [] := by
  cases l with
  | nil => rfl
  | cons x l' =>
    have := enc_pos x
    simp [FD.encs] at h; omega


set_option maxHeartbeats 8000000 in
theorem tFields (R : HP) (kb : Nat) (v : Value) (fs : List FD) (hV : RS R 1 v (List.length (FD.encs fs)) (bytesV (FD.encs fs))) (hok : ∀ x ∈ fs, x.Ok) (hl : (FD.encs fs).length ≤ 1000000000000) :
    TriG Tryz.prog 141 #[(vP (some ⟨kb, 0, none⟩)), v] R [cl kb 158 [(vS none 0 0), (vI .i64 0), (vI .i64 0), (vI .i64 0), (vS none 0 0), (vI .i64 0)]] (fun R' v__ post__ => ∃ (kv vv : Value), v__ = (vB true) ∧ post__ = [cl kb 158 [kv, (vI .i64 ((MSf fs).cr)), (vI .i64 ((MSf fs).md)), (vI .i64 ((MSf fs).ver)), vv, (vI .i64 ((MSf fs).le))]] ∧ (RS R' 1 kv (List.length ((MSf fs).ks)) (bytesV ((MSf fs).ks))) ∧ (RS R' 1 vv (List.length ((MSf fs).vs)) (bytesV ((MSf fs).vs)))) := by
 refine TriG.into (n := 99) (al := [(vP (some ⟨kb, 0, none⟩)), v]) func141 rfl ntmps141 rfl rfl fun w F H => ?_
 refine cR fun _ hK1_ => ?_
 refine sv (v := (vB false)) (x_assign rfl) ?_
 refine wn (hK1_ _ _ ?_)
 refine C_seq (fun _ hK2_ => ?_)
 refine C_block ?_
 have H3_ := Holds.recl H 1 rfl ((lcons (rfl : (vS none 0 0) = ((vS none 0 0))) (lcons (congrArg (vI .i64) ((by first | rfl | omega | (simp; done) | (simp; omega)) : 0 = MS0.cr)) (lcons (congrArg (vI .i64) ((by first | rfl | omega | (simp; done) | (simp; omega)) : 0 = MS0.md)) (lcons (congrArg (vI .i64) ((by first | rfl | omega | (simp; done) | (simp; omega)) : 0 = MS0.ver)) (lcons (rfl : (vS none 0 0) = ((vS none 0 0))) (lcons (congrArg (vI .i64) ((by first | rfl | omega | (simp; done) | (simp; omega)) : 0 = MS0.le)) rfl)))))) : [(vS none 0 0), (vI .i64 0), (vI .i64 0), (vI .i64 0), (vS none 0 0), (vI .i64 0)] = [((vS none 0 0)), (vI .i64 MS0.cr), (vI .i64 MS0.md), (vI .i64 MS0.ver), ((vS none 0 0)), (vI .i64 MS0.le)])
 refine C_loop (γ := HP × Value × (List FD) × Value × Value × MS × Bool) (fun x__ a__ w1__ => match x__ with | ⟨R1, v1, gs, kv1, vv1, ms, t4_v⟩ => ∃ h : Env, a__ = mkA 99 (upd (upd (upd h 0 (vP (some ⟨kb, 0, none⟩))) 1 v1) 4 (vB t4_v)) [] ∧ Holds w1__ (ro R1 :: cl kb 158 [kv1, (vI .i64 ms.cr), (vI .i64 ms.md), (vI .i64 ms.ver), vv1, (vI .i64 ms.le)] :: F) ∧ Same w w1__ ∧ (Sub R R1) ∧ (RS R1 1 v1 (List.length (FD.encs gs)) (bytesV (FD.encs gs))) ∧ (∀ x ∈ gs, x.Ok) ∧ ((FD.encs gs).length ≤ 1000000000000) ∧ (RS R1 1 kv1 (List.length ms.ks) (bytesV ms.ks)) ∧ (RS R1 1 vv1 (List.length ms.vs) (bytesV ms.vs)) ∧ (gs.foldl MS.put ms = MSf fs)) (fun x__ => match x__ with | ⟨R1, v1, gs, kv1, vv1, ms, t4_v⟩ => gs.length) (⟨R, v, fs, (vS none 0 0), (vS none 0 0), MS0, false⟩) ⟨_, congrArg (fun e => mkA 99 e []) (ch (ch (ch rfl rfl) rfl) rfl), H3_, (Same.refl w), (Sub.rfl' _), (by first | assumption | omega | exact rfl), (hok), (hl), (RS.nil _ _), (RS.nil _ _), (rfl)⟩ ?_
 rintro ⟨R1, v1, gs, kv1, vv1, ms, t4_v⟩ _ w4_ ⟨h, rfl, H5_, S6_, hsR1, hv1, hgk, hlen, hkv1, hvv1, hfo⟩
 refine C_seq (fun _ hK7_ => ?_)
 refine cR fun _ hK8_ => ?_
 refine sv (v := v1) (x_move rfl) ?_
 refine sv (v := (vI .i64 ((List.length (FD.encs gs)) : Int))) (x_lenRS rfl hv1 underlying101) ?_
 refine sv (v := (vB (decide (0 < ((List.length (FD.encs gs)) : Int))))) (x_bin rfl rfl rfl) ?_
 refine wn (hK8_ _ _ ?_)
 refine C_cond (b := decide (0 < ((List.length (FD.encs gs)) : Int))) rfl (fun c9_t => ?_) (fun c9_f => ?_)
 ·have c9_tp : 0 < ((List.length (FD.encs gs)) : Int) := of_decide_eq_true c9_t
  refine C_skip (X_then (hK7_ _ _ ?_))
  refine C_block ?_
  refine cR fun _ hK10_ => ?_
  refine sv (v := v1) (x_move rfl) ?_
  obtain ⟨x11_, gt12_, hgs13_⟩ := encs_ne c9_tp
  have hgv14_ : RS R1 1 v1 (List.length (x11_.enc ++ FD.encs gt12_)) (bytesV (x11_.enc ++ FD.encs gt12_)) := by rw [hgs13_] at hv1; exact hv1
  have hox15_ := hgk x11_ (by rw [hgs13_]; exact List.mem_cons_self)
  have ho1_ := hox15_.n1
  have ho6_ := hox15_.n6
  have hle_ : (x11_.enc ++ FD.encs gt12_).length ≤ 1000000000000 := by rw [hgs13_] at hlen; exact hlen
  have hle2_ : (FD.encs gt12_).length ≤ 1000000000000 := by rw [List.length_append] at hle_; omega
  have hgl_ : gs.length = gt12_.length + 1 := by rw [hgs13_]; rfl
  refine S_list (T_callG (al := [v1]) (pre := []) rfl rfl cb144 (tTake R1 v1 x11_ (FD.encs gt12_) (hgv14_) (hox15_) (hle_)) H5_ ?_)
  rintro R17_ v18_ p26_ w23_ hs16_ ⟨v19_, d20_, rfl, rfl, he21_, he22_⟩ S25_ H24_
  have S27_ := Same.trans S6_ S25_
  have hz_R_R17_ := Sub.trans' hsR1 hs16_
  refine sv (v := (vT #[(vA #[(vI .i64 ((x11_.num : Nat) : Int)), (vB x11_.isB), (vI .i64 x11_.i), d20_]), v19_, (vB true)])) (x_move rfl) ?_
  refine sv (v := (vA #[(vI .i64 ((x11_.num : Nat) : Int)), (vB x11_.isB), (vI .i64 x11_.i), d20_])) (by kernel_rfl) ?_
  refine sv (v := v19_) (by kernel_rfl) ?_
  refine sv (v := (vB true)) (by kernel_rfl) ?_
  refine S_list (T_alloc z259 H24_ ?_)
  intro b28_ w29_ S31_ H30_
  have S32_ := Same.trans S27_ S31_
  refine S_list0 (T_storeN (vs := [(vI .i64 ((x11_.num : Nat) : Int)), (vB x11_.isB), (vI .i64 x11_.i), d20_]) rfl rfl z259 rfl (List.forall_mem_cons.2 ⟨rfl, (List.forall_mem_cons.2 ⟨rfl, (List.forall_mem_cons.2 ⟨rfl, (List.forall_mem_cons.2 ⟨(RS.one he22_), (fun _ h__ => by cases h__)⟩)⟩)⟩)⟩) H30_ 0 rfl (Nat.le_of_ble_eq_true (by rfl)) ?_)
  intro w33_ S35_ H34_
  have S36_ := Same.trans S32_ S35_
  refine sv (v := v19_) (x_assign rfl) ?_
  refine sv (v := (vB true)) (x_assign rfl) ?_
  refine wn (hK10_ _ _ ?_)
  refine C_seq (fun _ hK37_ => ?_)
  refine cR fun _ hK38_ => ?_
  refine sm (vB true) ?_
  refine sv (v := (vB false)) (x_cast (x_not (b := true) rfl) rfl) ?_
  refine wn (hK38_ _ _ ?_)
  refine C_condF rfl ?_
  refine C_skip (X_then (hK37_ _ _ ?_))
  refine cR fun _ hK39_ => ?_
  refine sv (v := v19_) (x_move rfl) ?_
  refine sv (v := v19_) (x_assign rfl) ?_
  refine wn (hK39_ _ _ ?_)
  refine cR fun _ hK40_ => ?_
  refine sv (v := (vP (some ⟨b28_, 0, none⟩))) (by kernel_rfl) ?_
  refine sv (v := (vI .i64 ((x11_.num : Nat) : Int))) (x_load1 rfl underlying3 rfl ((Holds.rd H34_ 0 rfl) 0 (vI .i64 ((x11_.num : Nat) : Int)) rfl)) ?_
  refine sv (v := (vI .i64 ((x11_.num : Nat) : Int))) (x_assign rfl) ?_
  refine wn (hK40_ _ _ ?_)
  refine C_block ?_
  refine cR fun _ hK41_ => ?_
  refine sm (vI .i64 ((x11_.num : Nat) : Int)) ?_
  refine sv (v := (vB (decide (((x11_.num : Nat) : Int) = 1)))) (x_bin rfl rfl rfl) ?_
  refine sv (v := (vB (decide (((x11_.num : Nat) : Int) = 1)))) (x_move rfl) ?_
  rcases Bool.eq_false_or_eq_true (decide (((x11_.num : Nat) : Int) = 1)) with c42_t | c42_f
  ·have c42_tp : ((x11_.num : Nat) : Int) = 1 := of_decide_eq_true c42_t
   refine S_yes (j := 2) (dj := 26) (b := true) rfl rfl (congrArg vB c42_t) (T_val (v := (vP (some ⟨b28_, 1, none⟩))) (by kernel_rfl) ?_)
   refine S_yes (j := 2) (dj := 26) (b := true) rfl rfl (congrArg vB c42_t) (T_val (v := (vB x11_.isB)) (x_load1 rfl underlying4 rfl ((Holds.rd H34_ 0 rfl) 1 (vB x11_.isB) rfl)) ?_)
   refine S_list (T_pickT (v := (vB x11_.isB)) (congrArg vB c42_t) rfl ?_)
   refine sv (v := (vB x11_.isB)) (x_assign rfl) ?_
   refine wn (hK41_ _ _ ?_)
   refine C_cond (b := x11_.isB) rfl (fun c43_t => ?_) (fun c43_f => ?_)
   ·skip
    refine C_reg ?_
    refine sm (vP (some ⟨kb, 0, none⟩)) ?_
    refine sv (v := (vP (some ⟨b28_, 3, none⟩))) (by kernel_rfl) ?_
    refine sv (v := d20_) (x_load1 rfl underlying101 rfl ((Holds.rd H34_ 0 rfl) 3 d20_ rfl)) ?_
    refine sv (v := (vP (some ⟨kb, 0, none⟩))) (by kernel_rfl) ?_
    refine sv (v := (vP (some ⟨kb, 0, none⟩))) (by kernel_rfl) ?_
    refine S_list0 (T_store1 (v := d20_) rfl rfl z101 (RS.one he22_) H34_ 2 rfl (Nat.le_of_ble_eq_true (by rfl)) ?_)
    intro w44_ S46_ H45_
    have S47_ := Same.trans S36_ S46_
    refine wpList_nil (X_blkN (X_blkN (X_then ?_)))
    have H48_ := Holds.recl H45_ 2 rfl ((lcons rfl (lcons (congrArg (vI .i64) ((by first | rfl | omega | (simp; done) | (simp; omega)) : ms.cr = (⟨x11_.data, ms.cr, ms.md, ms.ver, ms.vs, ms.le⟩ : MS).cr)) (lcons (congrArg (vI .i64) ((by first | rfl | omega | (simp; done) | (simp; omega)) : ms.md = (⟨x11_.data, ms.cr, ms.md, ms.ver, ms.vs, ms.le⟩ : MS).md)) (lcons (congrArg (vI .i64) ((by first | rfl | omega | (simp; done) | (simp; omega)) : ms.ver = (⟨x11_.data, ms.cr, ms.md, ms.ver, ms.vs, ms.le⟩ : MS).ver)) (lcons rfl (lcons (congrArg (vI .i64) ((by first | rfl | omega | (simp; done) | (simp; omega)) : ms.le = (⟨x11_.data, ms.cr, ms.md, ms.ver, ms.vs, ms.le⟩ : MS).le)) rfl)))))) : [d20_, (vI .i64 ms.cr), (vI .i64 ms.md), (vI .i64 ms.ver), vv1, (vI .i64 ms.le)] = [d20_, (vI .i64 ((⟨x11_.data, ms.cr, ms.md, ms.ver, ms.vs, ms.le⟩ : MS).cr)), (vI .i64 ((⟨x11_.data, ms.cr, ms.md, ms.ver, ms.vs, ms.le⟩ : MS).md)), (vI .i64 ((⟨x11_.data, ms.cr, ms.md, ms.ver, ms.vs, ms.le⟩ : MS).ver)), vv1, (vI .i64 ((⟨x11_.data, ms.cr, ms.md, ms.ver, ms.vs, ms.le⟩ : MS).le))])
    have H49_ := Holds.pkF H48_ [1, 1] 1
    exact ⟨⟨R17_, v19_, gt12_, d20_, vv1, (⟨x11_.data, ms.cr, ms.md, ms.ver, ms.vs, ms.le⟩ : MS), t4_v⟩, ⟨_, congrArg (fun e => mkA 99 e []) (ch (ch (ch rfl rfl) rfl) rfl), H49_, S47_, (hz_R_R17_), (he21_), (fun y hy => hgk y (by rw [hgs13_]; exact List.mem_cons_of_mem _ hy)), (hle2_), (he22_), ((hvv1.mono hs16_)), (by rw [hgs13_, List.foldl_cons, MS.put1 (by omega)] at hfo; exact hfo)⟩, by first | omega | (dsimp only; omega) | (simp; omega)⟩
   ·skip
    (have h__ := hox15_.bb; rw [show x11_.isB = false by simpa using c43_f] at h__; simp at h__; omega)
  ·have c42_fp : ¬ (((x11_.num : Nat) : Int) = 1) := of_decide_eq_false c42_f
   refine S_no (j := 2) (dj := 26) (b := false) rfl rfl (congrArg vB c42_f) (by decide) ?_
   refine S_no (j := 2) (dj := 26) (b := false) rfl rfl (congrArg vB c42_f) (by decide) ?_
   refine S_list (T_pickF (v := (vB false)) (congrArg vB c42_f) rfl ?_)
   refine sv (v := (vB false)) (x_assign rfl) ?_
   refine wn (hK41_ _ _ ?_)
   refine C_condF rfl ?_
   refine cR fun _ hK50_ => ?_
   refine sm (vI .i64 ((x11_.num : Nat) : Int)) ?_
   refine sv (v := (vB (decide (((x11_.num : Nat) : Int) = 2)))) (x_bin rfl rfl rfl) ?_
   refine sv (v := (vB (decide (((x11_.num : Nat) : Int) = 2)))) (x_move rfl) ?_
   rcases Bool.eq_false_or_eq_true (decide (((x11_.num : Nat) : Int) = 2)) with c51_t | c51_f
   ·have c51_tp : ((x11_.num : Nat) : Int) = 2 := of_decide_eq_true c51_t
    refine S_yes (j := 2) (dj := 38) (b := true) rfl rfl (congrArg vB c51_t) (T_val (v := (vP (some ⟨b28_, 1, none⟩))) (by kernel_rfl) ?_)
    refine S_yes (j := 2) (dj := 38) (b := true) rfl rfl (congrArg vB c51_t) (T_val (v := (vB x11_.isB)) (x_load1 rfl underlying4 rfl ((Holds.rd H34_ 0 rfl) 1 (vB x11_.isB) rfl)) ?_)
    refine S_yes (j := 2) (dj := 38) (b := true) rfl rfl (congrArg vB c51_t) (T_val (v := (vB (!x11_.isB))) (x_not rfl) ?_)
    refine S_list (T_pickT (v := (vB (!x11_.isB))) (congrArg vB c51_t) rfl ?_)
    refine sv (v := (vB (!x11_.isB))) (x_assign rfl) ?_
    refine wn (hK50_ _ _ ?_)
    refine C_cond (b := !x11_.isB) rfl (fun c52_t => ?_) (fun c52_f => ?_)
    ·skip
     refine C_reg ?_
     refine sm (vP (some ⟨kb, 0, none⟩)) ?_
     refine sv (v := (vP (some ⟨b28_, 2, none⟩))) (by kernel_rfl) ?_
     refine sv (v := (vI .i64 x11_.i)) (x_load1 rfl underlying2 rfl ((Holds.rd H34_ 0 rfl) 2 (vI .i64 x11_.i) rfl)) ?_
     refine sv (v := (vP (some ⟨kb, 0, none⟩))) (by kernel_rfl) ?_
     refine sv (v := (vP (some ⟨kb, 1, none⟩))) (by kernel_rfl) ?_
     refine S_list0 (T_store1 (v := (vI .i64 x11_.i)) rfl rfl z2 rfl H34_ 2 rfl (Nat.le_of_ble_eq_true (by rfl)) ?_)
     intro w53_ S55_ H54_
     have S56_ := Same.trans S36_ S55_
     refine wpList_nil (X_blkN (X_blkN (X_then ?_)))
     have H57_ := Holds.recl H54_ 2 rfl ((lcons rfl (lcons (congrArg (vI .i64) ((by first | rfl | omega | (simp; done) | (simp; omega)) : x11_.i = (⟨ms.ks, x11_.i, ms.md, ms.ver, ms.vs, ms.le⟩ : MS).cr)) (lcons (congrArg (vI .i64) ((by first | rfl | omega | (simp; done) | (simp; omega)) : ms.md = (⟨ms.ks, x11_.i, ms.md, ms.ver, ms.vs, ms.le⟩ : MS).md)) (lcons (congrArg (vI .i64) ((by first | rfl | omega | (simp; done) | (simp; omega)) : ms.ver = (⟨ms.ks, x11_.i, ms.md, ms.ver, ms.vs, ms.le⟩ : MS).ver)) (lcons rfl (lcons (congrArg (vI .i64) ((by first | rfl | omega | (simp; done) | (simp; omega)) : ms.le = (⟨ms.ks, x11_.i, ms.md, ms.ver, ms.vs, ms.le⟩ : MS).le)) rfl)))))) : [kv1, (vI .i64 x11_.i), (vI .i64 ms.md), (vI .i64 ms.ver), vv1, (vI .i64 ms.le)] = [kv1, (vI .i64 ((⟨ms.ks, x11_.i, ms.md, ms.ver, ms.vs, ms.le⟩ : MS).cr)), (vI .i64 ((⟨ms.ks, x11_.i, ms.md, ms.ver, ms.vs, ms.le⟩ : MS).md)), (vI .i64 ((⟨ms.ks, x11_.i, ms.md, ms.ver, ms.vs, ms.le⟩ : MS).ver)), vv1, (vI .i64 ((⟨ms.ks, x11_.i, ms.md, ms.ver, ms.vs, ms.le⟩ : MS).le))])
     have H58_ := Holds.pkF H57_ [1, 1] 1
     exact ⟨⟨R17_, v19_, gt12_, kv1, vv1, (⟨ms.ks, x11_.i, ms.md, ms.ver, ms.vs, ms.le⟩ : MS), t4_v⟩, ⟨_, congrArg (fun e => mkA 99 e []) (ch (ch (ch rfl rfl) rfl) rfl), H58_, S56_, (hz_R_R17_), (he21_), (fun y hy => hgk y (by rw [hgs13_]; exact List.mem_cons_of_mem _ hy)), (hle2_), ((hkv1.mono hs16_)), ((hvv1.mono hs16_)), (by rw [hgs13_, List.foldl_cons, MS.put2 (by omega)] at hfo; exact hfo)⟩, by first | omega | (dsimp only; omega) | (simp; omega)⟩
    ·skip
     (have h__ := hox15_.bb; rw [show x11_.isB = true by simpa using c52_f] at h__; simp at h__; omega)
   ·have c51_fp : ¬ (((x11_.num : Nat) : Int) = 2) := of_decide_eq_false c51_f
    refine S_no (j := 2) (dj := 38) (b := false) rfl rfl (congrArg vB c51_f) (by decide) ?_
    refine S_no (j := 2) (dj := 38) (b := false) rfl rfl (congrArg vB c51_f) (by decide) ?_
    refine S_no (j := 2) (dj := 38) (b := false) rfl rfl (congrArg vB c51_f) (by decide) ?_
    refine S_list (T_pickF (v := (vB false)) (congrArg vB c51_f) rfl ?_)
    refine sv (v := (vB false)) (x_assign rfl) ?_
    refine wn (hK50_ _ _ ?_)
    refine C_condF rfl ?_
    refine cR fun _ hK59_ => ?_
    refine sm (vI .i64 ((x11_.num : Nat) : Int)) ?_
    refine sv (v := (vB (decide (((x11_.num : Nat) : Int) = 3)))) (x_bin rfl rfl rfl) ?_
    refine sv (v := (vB (decide (((x11_.num : Nat) : Int) = 3)))) (x_move rfl) ?_
    rcases Bool.eq_false_or_eq_true (decide (((x11_.num : Nat) : Int) = 3)) with c60_t | c60_f
    ·have c60_tp : ((x11_.num : Nat) : Int) = 3 := of_decide_eq_true c60_t
     refine S_yes (j := 2) (dj := 51) (b := true) rfl rfl (congrArg vB c60_t) (T_val (v := (vP (some ⟨b28_, 1, none⟩))) (by kernel_rfl) ?_)
     refine S_yes (j := 2) (dj := 51) (b := true) rfl rfl (congrArg vB c60_t) (T_val (v := (vB x11_.isB)) (x_load1 rfl underlying4 rfl ((Holds.rd H34_ 0 rfl) 1 (vB x11_.isB) rfl)) ?_)
     refine S_yes (j := 2) (dj := 51) (b := true) rfl rfl (congrArg vB c60_t) (T_val (v := (vB (!x11_.isB))) (x_not rfl) ?_)
     refine S_list (T_pickT (v := (vB (!x11_.isB))) (congrArg vB c60_t) rfl ?_)
     refine sv (v := (vB (!x11_.isB))) (x_assign rfl) ?_
     refine wn (hK59_ _ _ ?_)
     refine C_cond (b := !x11_.isB) rfl (fun c61_t => ?_) (fun c61_f => ?_)
     ·skip
      refine C_reg ?_
      refine sm (vP (some ⟨kb, 0, none⟩)) ?_
      refine sv (v := (vP (some ⟨b28_, 2, none⟩))) (by kernel_rfl) ?_
      refine sv (v := (vI .i64 x11_.i)) (x_load1 rfl underlying2 rfl ((Holds.rd H34_ 0 rfl) 2 (vI .i64 x11_.i) rfl)) ?_
      refine sv (v := (vP (some ⟨kb, 0, none⟩))) (by kernel_rfl) ?_
      refine sv (v := (vP (some ⟨kb, 2, none⟩))) (by kernel_rfl) ?_
      refine S_list0 (T_store1 (v := (vI .i64 x11_.i)) rfl rfl z2 rfl H34_ 2 rfl (Nat.le_of_ble_eq_true (by rfl)) ?_)
      intro w62_ S64_ H63_
      have S65_ := Same.trans S36_ S64_
      refine wpList_nil (X_blkN (X_blkN (X_then ?_)))
      have H66_ := Holds.recl H63_ 2 rfl ((lcons rfl (lcons (congrArg (vI .i64) ((by first | rfl | omega | (simp; done) | (simp; omega)) : ms.cr = (⟨ms.ks, ms.cr, x11_.i, ms.ver, ms.vs, ms.le⟩ : MS).cr)) (lcons (congrArg (vI .i64) ((by first | rfl | omega | (simp; done) | (simp; omega)) : x11_.i = (⟨ms.ks, ms.cr, x11_.i, ms.ver, ms.vs, ms.le⟩ : MS).md)) (lcons (congrArg (vI .i64) ((by first | rfl | omega | (simp; done) | (simp; omega)) : ms.ver = (⟨ms.ks, ms.cr, x11_.i, ms.ver, ms.vs, ms.le⟩ : MS).ver)) (lcons rfl (lcons (congrArg (vI .i64) ((by first | rfl | omega | (simp; done) | (simp; omega)) : ms.le = (⟨ms.ks, ms.cr, x11_.i, ms.ver, ms.vs, ms.le⟩ : MS).le)) rfl)))))) : [kv1, (vI .i64 ms.cr), (vI .i64 x11_.i), (vI .i64 ms.ver), vv1, (vI .i64 ms.le)] = [kv1, (vI .i64 ((⟨ms.ks, ms.cr, x11_.i, ms.ver, ms.vs, ms.le⟩ : MS).cr)), (vI .i64 ((⟨ms.ks, ms.cr, x11_.i, ms.ver, ms.vs, ms.le⟩ : MS).md)), (vI .i64 ((⟨ms.ks, ms.cr, x11_.i, ms.ver, ms.vs, ms.le⟩ : MS).ver)), vv1, (vI .i64 ((⟨ms.ks, ms.cr, x11_.i, ms.ver, ms.vs, ms.le⟩ : MS).le))])
      have H67_ := Holds.pkF H66_ [1, 1] 1
      exact ⟨⟨R17_, v19_, gt12_, kv1, vv1, (⟨ms.ks, ms.cr, x11_.i, ms.ver, ms.vs, ms.le⟩ : MS), t4_v⟩, ⟨_, congrArg (fun e => mkA 99 e []) (ch (ch (ch rfl rfl) rfl) rfl), H67_, S65_, (hz_R_R17_), (he21_), (fun y hy => hgk y (by rw [hgs13_]; exact List.mem_cons_of_mem _ hy)), (hle2_), ((hkv1.mono hs16_)), ((hvv1.mono hs16_)), (by rw [hgs13_, List.foldl_cons, MS.put3 (by omega)] at hfo; exact hfo)⟩, by first | omega | (dsimp only; omega) | (simp; omega)⟩
     ·skip
      (have h__ := hox15_.bb; rw [show x11_.isB = true by simpa using c61_f] at h__; simp at h__; omega)
    ·have c60_fp : ¬ (((x11_.num : Nat) : Int) = 3) := of_decide_eq_false c60_f
     refine S_no (j := 2) (dj := 51) (b := false) rfl rfl (congrArg vB c60_f) (by decide) ?_
     refine S_no (j := 2) (dj := 51) (b := false) rfl rfl (congrArg vB c60_f) (by decide) ?_
     refine S_no (j := 2) (dj := 51) (b := false) rfl rfl (congrArg vB c60_f) (by decide) ?_
     refine S_list (T_pickF (v := (vB false)) (congrArg vB c60_f) rfl ?_)
     refine sv (v := (vB false)) (x_assign rfl) ?_
     refine wn (hK59_ _ _ ?_)
     refine C_condF rfl ?_
     refine cR fun _ hK68_ => ?_
     refine sm (vI .i64 ((x11_.num : Nat) : Int)) ?_
     refine sv (v := (vB (decide (((x11_.num : Nat) : Int) = 4)))) (x_bin rfl rfl rfl) ?_
     refine sv (v := (vB (decide (((x11_.num : Nat) : Int) = 4)))) (x_move rfl) ?_
     rcases Bool.eq_false_or_eq_true (decide (((x11_.num : Nat) : Int) = 4)) with c69_t | c69_f
     ·have c69_tp : ((x11_.num : Nat) : Int) = 4 := of_decide_eq_true c69_t
      refine S_yes (j := 2) (dj := 64) (b := true) rfl rfl (congrArg vB c69_t) (T_val (v := (vP (some ⟨b28_, 1, none⟩))) (by kernel_rfl) ?_)
      refine S_yes (j := 2) (dj := 64) (b := true) rfl rfl (congrArg vB c69_t) (T_val (v := (vB x11_.isB)) (x_load1 rfl underlying4 rfl ((Holds.rd H34_ 0 rfl) 1 (vB x11_.isB) rfl)) ?_)
      refine S_yes (j := 2) (dj := 64) (b := true) rfl rfl (congrArg vB c69_t) (T_val (v := (vB (!x11_.isB))) (x_not rfl) ?_)
      refine S_list (T_pickT (v := (vB (!x11_.isB))) (congrArg vB c69_t) rfl ?_)
      refine sv (v := (vB (!x11_.isB))) (x_assign rfl) ?_
      refine wn (hK68_ _ _ ?_)
      refine C_cond (b := !x11_.isB) rfl (fun c70_t => ?_) (fun c70_f => ?_)
      ·skip
       refine C_reg ?_
       refine sm (vP (some ⟨kb, 0, none⟩)) ?_
       refine sv (v := (vP (some ⟨b28_, 2, none⟩))) (by kernel_rfl) ?_
       refine sv (v := (vI .i64 x11_.i)) (x_load1 rfl underlying2 rfl ((Holds.rd H34_ 0 rfl) 2 (vI .i64 x11_.i) rfl)) ?_
       refine sv (v := (vP (some ⟨kb, 0, none⟩))) (by kernel_rfl) ?_
       refine sv (v := (vP (some ⟨kb, 3, none⟩))) (by kernel_rfl) ?_
       refine S_list0 (T_store1 (v := (vI .i64 x11_.i)) rfl rfl z2 rfl H34_ 2 rfl (Nat.le_of_ble_eq_true (by rfl)) ?_)
       intro w71_ S73_ H72_
       have S74_ := Same.trans S36_ S73_
       refine wpList_nil (X_blkN (X_blkN (X_then ?_)))
       have H75_ := Holds.recl H72_ 2 rfl ((lcons rfl (lcons (congrArg (vI .i64) ((by first | rfl | omega | (simp; done) | (simp; omega)) : ms.cr = (⟨ms.ks, ms.cr, ms.md, x11_.i, ms.vs, ms.le⟩ : MS).cr)) (lcons (congrArg (vI .i64) ((by first | rfl | omega | (simp; done) | (simp; omega)) : ms.md = (⟨ms.ks, ms.cr, ms.md, x11_.i, ms.vs, ms.le⟩ : MS).md)) (lcons (congrArg (vI .i64) ((by first | rfl | omega | (simp; done) | (simp; omega)) : x11_.i = (⟨ms.ks, ms.cr, ms.md, x11_.i, ms.vs, ms.le⟩ : MS).ver)) (lcons rfl (lcons (congrArg (vI .i64) ((by first | rfl | omega | (simp; done) | (simp; omega)) : ms.le = (⟨ms.ks, ms.cr, ms.md, x11_.i, ms.vs, ms.le⟩ : MS).le)) rfl)))))) : [kv1, (vI .i64 ms.cr), (vI .i64 ms.md), (vI .i64 x11_.i), vv1, (vI .i64 ms.le)] = [kv1, (vI .i64 ((⟨ms.ks, ms.cr, ms.md, x11_.i, ms.vs, ms.le⟩ : MS).cr)), (vI .i64 ((⟨ms.ks, ms.cr, ms.md, x11_.i, ms.vs, ms.le⟩ : MS).md)), (vI .i64 ((⟨ms.ks, ms.cr, ms.md, x11_.i, ms.vs, ms.le⟩ : MS).ver)), vv1, (vI .i64 ((⟨ms.ks, ms.cr, ms.md, x11_.i, ms.vs, ms.le⟩ : MS).le))])
       have H76_ := Holds.pkF H75_ [1, 1] 1
       exact ⟨⟨R17_, v19_, gt12_, kv1, vv1, (⟨ms.ks, ms.cr, ms.md, x11_.i, ms.vs, ms.le⟩ : MS), t4_v⟩, ⟨_, congrArg (fun e => mkA 99 e []) (ch (ch (ch rfl rfl) rfl) rfl), H76_, S74_, (hz_R_R17_), (he21_), (fun y hy => hgk y (by rw [hgs13_]; exact List.mem_cons_of_mem _ hy)), (hle2_), ((hkv1.mono hs16_)), ((hvv1.mono hs16_)), (by rw [hgs13_, List.foldl_cons, MS.put4 (by omega)] at hfo; exact hfo)⟩, by first | omega | (dsimp only; omega) | (simp; omega)⟩
      ·skip
       (have h__ := hox15_.bb; rw [show x11_.isB = true by simpa using c70_f] at h__; simp at h__; omega)
     ·have c69_fp : ¬ (((x11_.num : Nat) : Int) = 4) := of_decide_eq_false c69_f
      refine S_no (j := 2) (dj := 64) (b := false) rfl rfl (congrArg vB c69_f) (by decide) ?_
      refine S_no (j := 2) (dj := 64) (b := false) rfl rfl (congrArg vB c69_f) (by decide) ?_
      refine S_no (j := 2) (dj := 64) (b := false) rfl rfl (congrArg vB c69_f) (by decide) ?_
      refine S_list (T_pickF (v := (vB false)) (congrArg vB c69_f) rfl ?_)
      refine sv (v := (vB false)) (x_assign rfl) ?_
      refine wn (hK68_ _ _ ?_)
      refine C_condF rfl ?_
      refine cR fun _ hK77_ => ?_
      refine sm (vI .i64 ((x11_.num : Nat) : Int)) ?_
      refine sv (v := (vB (decide (((x11_.num : Nat) : Int) = 5)))) (x_bin rfl rfl rfl) ?_
      refine sv (v := (vB (decide (((x11_.num : Nat) : Int) = 5)))) (x_move rfl) ?_
      rcases Bool.eq_false_or_eq_true (decide (((x11_.num : Nat) : Int) = 5)) with c78_t | c78_f
      ·have c78_tp : ((x11_.num : Nat) : Int) = 5 := of_decide_eq_true c78_t
       refine S_yes (j := 2) (dj := 77) (b := true) rfl rfl (congrArg vB c78_t) (T_val (v := (vP (some ⟨b28_, 1, none⟩))) (by kernel_rfl) ?_)
       refine S_yes (j := 2) (dj := 77) (b := true) rfl rfl (congrArg vB c78_t) (T_val (v := (vB x11_.isB)) (x_load1 rfl underlying4 rfl ((Holds.rd H34_ 0 rfl) 1 (vB x11_.isB) rfl)) ?_)
       refine S_list (T_pickT (v := (vB x11_.isB)) (congrArg vB c78_t) rfl ?_)
       refine sv (v := (vB x11_.isB)) (x_assign rfl) ?_
       refine wn (hK77_ _ _ ?_)
       refine C_cond (b := x11_.isB) rfl (fun c79_t => ?_) (fun c79_f => ?_)
       ·skip
        refine C_reg ?_
        refine sm (vP (some ⟨kb, 0, none⟩)) ?_
        refine sv (v := (vP (some ⟨b28_, 3, none⟩))) (by kernel_rfl) ?_
        refine sv (v := d20_) (x_load1 rfl underlying101 rfl ((Holds.rd H34_ 0 rfl) 3 d20_ rfl)) ?_
        refine sv (v := (vP (some ⟨kb, 0, none⟩))) (by kernel_rfl) ?_
        refine sv (v := (vP (some ⟨kb, 4, none⟩))) (by kernel_rfl) ?_
        refine S_list0 (T_store1 (v := d20_) rfl rfl z101 (RS.one he22_) H34_ 2 rfl (Nat.le_of_ble_eq_true (by rfl)) ?_)
        intro w80_ S82_ H81_
        have S83_ := Same.trans S36_ S82_
        refine wpList_nil (X_blkN (X_blkN (X_then ?_)))
        have H84_ := Holds.recl H81_ 2 rfl ((lcons rfl (lcons (congrArg (vI .i64) ((by first | rfl | omega | (simp; done) | (simp; omega)) : ms.cr = (⟨ms.ks, ms.cr, ms.md, ms.ver, x11_.data, ms.le⟩ : MS).cr)) (lcons (congrArg (vI .i64) ((by first | rfl | omega | (simp; done) | (simp; omega)) : ms.md = (⟨ms.ks, ms.cr, ms.md, ms.ver, x11_.data, ms.le⟩ : MS).md)) (lcons (congrArg (vI .i64) ((by first | rfl | omega | (simp; done) | (simp; omega)) : ms.ver = (⟨ms.ks, ms.cr, ms.md, ms.ver, x11_.data, ms.le⟩ : MS).ver)) (lcons rfl (lcons (congrArg (vI .i64) ((by first | rfl | omega | (simp; done) | (simp; omega)) : ms.le = (⟨ms.ks, ms.cr, ms.md, ms.ver, x11_.data, ms.le⟩ : MS).le)) rfl)))))) : [kv1, (vI .i64 ms.cr), (vI .i64 ms.md), (vI .i64 ms.ver), d20_, (vI .i64 ms.le)] = [kv1, (vI .i64 ((⟨ms.ks, ms.cr, ms.md, ms.ver, x11_.data, ms.le⟩ : MS).cr)), (vI .i64 ((⟨ms.ks, ms.cr, ms.md, ms.ver, x11_.data, ms.le⟩ : MS).md)), (vI .i64 ((⟨ms.ks, ms.cr, ms.md, ms.ver, x11_.data, ms.le⟩ : MS).ver)), d20_, (vI .i64 ((⟨ms.ks, ms.cr, ms.md, ms.ver, x11_.data, ms.le⟩ : MS).le))])
        have H85_ := Holds.pkF H84_ [1, 1] 1
        exact ⟨⟨R17_, v19_, gt12_, kv1, d20_, (⟨ms.ks, ms.cr, ms.md, ms.ver, x11_.data, ms.le⟩ : MS), t4_v⟩, ⟨_, congrArg (fun e => mkA 99 e []) (ch (ch (ch rfl rfl) rfl) rfl), H85_, S83_, (hz_R_R17_), (he21_), (fun y hy => hgk y (by rw [hgs13_]; exact List.mem_cons_of_mem _ hy)), (hle2_), ((hkv1.mono hs16_)), (he22_), (by rw [hgs13_, List.foldl_cons, MS.put5 (by omega)] at hfo; exact hfo)⟩, by first | omega | (dsimp only; omega) | (simp; omega)⟩
       ·skip
        (have h__ := hox15_.bb; rw [show x11_.isB = false by simpa using c79_f] at h__; simp at h__; omega)
      ·have c78_fp : ¬ (((x11_.num : Nat) : Int) = 5) := of_decide_eq_false c78_f
       refine S_no (j := 2) (dj := 77) (b := false) rfl rfl (congrArg vB c78_f) (by decide) ?_
       refine S_no (j := 2) (dj := 77) (b := false) rfl rfl (congrArg vB c78_f) (by decide) ?_
       refine S_list (T_pickF (v := (vB false)) (congrArg vB c78_f) rfl ?_)
       refine sv (v := (vB false)) (x_assign rfl) ?_
       refine wn (hK77_ _ _ ?_)
       refine C_condF rfl ?_
       refine cR fun _ hK86_ => ?_
       refine sm (vI .i64 ((x11_.num : Nat) : Int)) ?_
       refine sv (v := (vB (decide (((x11_.num : Nat) : Int) = 6)))) (x_bin rfl rfl rfl) ?_
       refine sv (v := (vB (decide (((x11_.num : Nat) : Int) = 6)))) (x_move rfl) ?_
       rcases Bool.eq_false_or_eq_true (decide (((x11_.num : Nat) : Int) = 6)) with c87_t | c87_f
       ·have c87_tp : ((x11_.num : Nat) : Int) = 6 := of_decide_eq_true c87_t
        refine S_yes (j := 2) (dj := 89) (b := true) rfl rfl (congrArg vB c87_t) (T_val (v := (vP (some ⟨b28_, 1, none⟩))) (by kernel_rfl) ?_)
        refine S_yes (j := 2) (dj := 89) (b := true) rfl rfl (congrArg vB c87_t) (T_val (v := (vB x11_.isB)) (x_load1 rfl underlying4 rfl ((Holds.rd H34_ 0 rfl) 1 (vB x11_.isB) rfl)) ?_)
        refine S_yes (j := 2) (dj := 89) (b := true) rfl rfl (congrArg vB c87_t) (T_val (v := (vB (!x11_.isB))) (x_not rfl) ?_)
        refine S_list (T_pickT (v := (vB (!x11_.isB))) (congrArg vB c87_t) rfl ?_)
        refine sv (v := (vB (!x11_.isB))) (x_assign rfl) ?_
        refine wn (hK86_ _ _ ?_)
        refine C_cond (b := !x11_.isB) rfl (fun c88_t => ?_) (fun c88_f => ?_)
        ·skip
         refine C_reg ?_
         refine sm (vP (some ⟨kb, 0, none⟩)) ?_
         refine sv (v := (vP (some ⟨b28_, 2, none⟩))) (by kernel_rfl) ?_
         refine sv (v := (vI .i64 x11_.i)) (x_load1 rfl underlying2 rfl ((Holds.rd H34_ 0 rfl) 2 (vI .i64 x11_.i) rfl)) ?_
         refine sv (v := (vP (some ⟨kb, 0, none⟩))) (by kernel_rfl) ?_
         refine sv (v := (vP (some ⟨kb, 5, none⟩))) (by kernel_rfl) ?_
         refine S_list0 (T_store1 (v := (vI .i64 x11_.i)) rfl rfl z2 rfl H34_ 2 rfl (Nat.le_of_ble_eq_true (by rfl)) ?_)
         intro w89_ S91_ H90_
         have S92_ := Same.trans S36_ S91_
         refine wpList_nil (X_blkN (X_blkN (X_then ?_)))
         have H93_ := Holds.recl H90_ 2 rfl ((lcons rfl (lcons (congrArg (vI .i64) ((by first | rfl | omega | (simp; done) | (simp; omega)) : ms.cr = (⟨ms.ks, ms.cr, ms.md, ms.ver, ms.vs, x11_.i⟩ : MS).cr)) (lcons (congrArg (vI .i64) ((by first | rfl | omega | (simp; done) | (simp; omega)) : ms.md = (⟨ms.ks, ms.cr, ms.md, ms.ver, ms.vs, x11_.i⟩ : MS).md)) (lcons (congrArg (vI .i64) ((by first | rfl | omega | (simp; done) | (simp; omega)) : ms.ver = (⟨ms.ks, ms.cr, ms.md, ms.ver, ms.vs, x11_.i⟩ : MS).ver)) (lcons rfl (lcons (congrArg (vI .i64) ((by first | rfl | omega | (simp; done) | (simp; omega)) : x11_.i = (⟨ms.ks, ms.cr, ms.md, ms.ver, ms.vs, x11_.i⟩ : MS).le)) rfl)))))) : [kv1, (vI .i64 ms.cr), (vI .i64 ms.md), (vI .i64 ms.ver), vv1, (vI .i64 x11_.i)] = [kv1, (vI .i64 ((⟨ms.ks, ms.cr, ms.md, ms.ver, ms.vs, x11_.i⟩ : MS).cr)), (vI .i64 ((⟨ms.ks, ms.cr, ms.md, ms.ver, ms.vs, x11_.i⟩ : MS).md)), (vI .i64 ((⟨ms.ks, ms.cr, ms.md, ms.ver, ms.vs, x11_.i⟩ : MS).ver)), vv1, (vI .i64 ((⟨ms.ks, ms.cr, ms.md, ms.ver, ms.vs, x11_.i⟩ : MS).le))])
         have H94_ := Holds.pkF H93_ [1, 1] 1
         exact ⟨⟨R17_, v19_, gt12_, kv1, vv1, (⟨ms.ks, ms.cr, ms.md, ms.ver, ms.vs, x11_.i⟩ : MS), t4_v⟩, ⟨_, congrArg (fun e => mkA 99 e []) (ch (ch (ch rfl rfl) rfl) rfl), H94_, S92_, (hz_R_R17_), (he21_), (fun y hy => hgk y (by rw [hgs13_]; exact List.mem_cons_of_mem _ hy)), (hle2_), ((hkv1.mono hs16_)), ((hvv1.mono hs16_)), (by rw [hgs13_, List.foldl_cons, MS.put6 (by omega)] at hfo; exact hfo)⟩, by first | omega | (dsimp only; omega) | (simp; omega)⟩
        ·skip
         (have h__ := hox15_.bb; rw [show x11_.isB = true by simpa using c88_f] at h__; simp at h__; omega)
       ·have c87_fp : ¬ (((x11_.num : Nat) : Int) = 6) := of_decide_eq_false c87_f
        omega
 ·have c9_fp : ¬ (0 < ((List.length (FD.encs gs)) : Int)) := of_decide_eq_false c9_f
  refine C_exit (X_thenX (X_thenX (X_blkHit ?_)))
  refine (X_then (hK2_ _ _ ?_))
  refine cR fun _ hK95_ => ?_
  refine sv (v := (vB true)) (x_assign rfl) ?_
  refine wn (hK95_ _ _ ?_)
  refine C_ret ?_
  refine R_any (v := (vB true)) (run_results1 rfl rfl) ?_
  have hms_ : ms = MSf fs := by rw [encs_nil c9_fp] at hfo; exact hfo
  have H96_ := Holds.recl H5_ 1 rfl ((lcons rfl (lcons (congrArg (vI .i64) ((by rw [hms_]) : ms.cr = (MSf fs).cr)) (lcons (congrArg (vI .i64) ((by rw [hms_]) : ms.md = (MSf fs).md)) (lcons (congrArg (vI .i64) ((by rw [hms_]) : ms.ver = (MSf fs).ver)) (lcons rfl (lcons (congrArg (vI .i64) ((by rw [hms_]) : ms.le = (MSf fs).le)) rfl)))))) : [kv1, (vI .i64 ms.cr), (vI .i64 ms.md), (vI .i64 ms.ver), vv1, (vI .i64 ms.le)] = [kv1, (vI .i64 ((MSf fs).cr)), (vI .i64 ((MSf fs).md)), (vI .i64 ((MSf fs).ver)), vv1, (vI .i64 ((MSf fs).le))])
  exact ⟨R1, _, _, rfl, hsR1, ⟨kv1, vv1, rfl, rfl, (by rw [← hms_]; exact hkv1), (by rw [← hms_]; exact hvv1)⟩, S6_, H96_⟩
end Go.Proofs.YtlnihndjepjagaaGreat
set_option linter.unusedVariables false
set_option linter.unusedSimpArgs false
namespace Go.Proofs.YtlnihndjepjagaaGreat
open Go Go.RowKit Gw Tryz
open Go.Value renaming int → vI, bool → vB, slice → vS, pointer → vP, agg → vA, tuple → vT

/-! ### Events -/
def EvAt (R : HP) (v : Value) (x : RW) : Prop := ∃ (eb kb : Nat) (kv vv : Value), v = .pointer (some ⟨eb, 0, none⟩) ∧ RC R eb 0 [.int .i32 (if x.gone then 1 else 0), .pointer (some ⟨kb, 0, none⟩), .pointer none] ∧
  RC R kb 0 [kv, .int .i64 x.kV_Create, .int .i64 (if x.gone then x.rev_Main else x.kV_Mod), .int .i64 x.kV_Version, vv, .int .i64 x.kV_Lease] ∧ RS R 1 kv x.ks.length (bytesV x.ks) ∧ RS R 1 vv x.vs.length (bytesV x.vs)
theorem EvAt.mono {R R' : HP} {v : Value} {x : RW} (h : EvAt R v x) (s : Sub R R') : EvAt R' v x := by
  obtain ⟨eb, kb, kv, vv, h1, h2, h3, h4, h5⟩ := h
  exact ⟨eb, kb, kv, vv, h1, h2.mono s, h3.mono s, h4.mono s, h5.mono s⟩
def EvL (R : HP) (es : List Value) (L : List RW) : Prop := es.length = L.length ∧ ∀ (i : Nat) (x : RW), L[i]? = some x → ∃ v, es[i]? = some v ∧ EvAt R v x
theorem EvL.nil {R : HP} : EvL R [] [] := ⟨rfl, fun i x h => by simp at h⟩
theorem EvL.mono {R R' : HP} {es : List Value} {L : List RW} (h : EvL R es L) (s : Sub R R') : EvL R' es L := ⟨h.1, fun i x hx => by obtain ⟨v, h1, h2⟩ := h.2 i x hx; exact ⟨v, h1, h2.mono s⟩⟩
theorem EvL.snoc {R : HP} {es : List Value} {L : List RW} {v : Value} {x : RW} (h : EvL R es L) (hx : EvAt R v x) : EvL R (es ++ [v]) (L ++ [x]) := by
  refine ⟨by simp [h.1], fun i y hy => ?_⟩
  by_cases hi : i < L.length
  · rw [List.getElem?_append_left hi] at hy
    obtain ⟨u, h1, h2⟩ := h.2 i y hy
    exact ⟨u, by rw [List.getElem?_append_left (by rw [h.1]; exact hi)]; exact h1, h2⟩
  · rw [List.getElem?_append_right (by omega)] at hy
    have h0 : i - L.length = 0 := by
      have := (List.getElem?_eq_some_iff.1 hy).1
      simp at this; omega
    rw [h0] at hy
    simp at hy
    subst hy
    exact ⟨v, by rw [List.getElem?_append_right (by rw [h.1]; omega), h.1, h0]; rfl, hx⟩
theorem EvL.at_ {R : HP} {es : List Value} {L : List RW} {k : Nat} (h : EvL R es L) (hk : k < es.length) : ∃ x v, L[k]? = some x ∧ es[k]? = some v ∧ EvAt R v x := by
  have hl : k < L.length := by rw [← h.1]; exact hk
  obtain ⟨v, h1, h2⟩ := h.2 k L[k] (List.getElem?_eq_getElem hl)
  exact ⟨_, v, List.getElem?_eq_getElem hl, h1, h2⟩
theorem Bts.at_ {R : HP} {ks : List Value} {bs : List (List Int)} {k : Nat} {u : List Int} (h : Bts R ks bs) (hu : bs[k]? = some u) : ∃ kv, ks[k]? = some kv ∧ RS R 1 kv u.length (bytesV u) := h.2 k u hu
def selR (M : List GW) (L : List RW) : List RW := L.filter (fun x => M.any (fun w => seesB w (strN x.ks)))
theorem selR_yes {M : List GW} {L : List RW} {k : Nat} {x : RW} (h : L[k]? = some x) (hs : M.any (fun w => seesB w (strN x.ks)) = true) : selR M (L.take (k + 1)) = selR M (L.take k) ++ [x] := by
  rw [take_snoc h]; unfold selR; rw [List.filter_append]; simp [hs]
theorem selR_no {M : List GW} {L : List RW} {k : Nat} {x : RW} (h : L[k]? = some x) (hs : M.any (fun w => seesB w (strN x.ks)) = false) : selR M (L.take (k + 1)) = selR M (L.take k) := by
  rw [take_snoc h]; unfold selR; rw [List.filter_append]; simp [hs]
theorem selR_len (M : List GW) (L : List RW) (k : Nat) : (selR M (L.take k)).length ≤ k := by
  have h1 := List.length_filter_le (fun x : RW => M.any (fun w => seesB w (strN x.ks))) (L.take k)
  unfold selR
  rw [List.length_take] at h1; omega
structure RWok (x : RW) : Prop where
  m0 : 0 ≤ x.rev_Main
  m1 : x.rev_Main < 9223372036854775808
  s0 : 0 ≤ x.rev_Sub
  s1 : x.rev_Sub < 9223372036854775808
  cr : i64 x.kV_Create
  md : i64 x.kV_Mod
  ver : i64 x.kV_Version
  le : i64 x.kV_Lease
  k0 : x.kV_Key.size ≠ 0
  k1 : x.kV_Key.size ≤ 100
  v1 : x.kV_Value.size ≤ 100
def RW.fl (x : RW) : List FD := flds x.ks x.vs x.kV_Create x.kV_Mod x.kV_Version x.kV_Lease
theorem RW.ks_len (x : RW) : x.ks.length = x.kV_Key.size := ints_length _
theorem RW.vs_len (x : RW) : x.vs.length = x.kV_Value.size := ints_length _
theorem RWok.vb {x : RW} (h : RWok x) : x.vb = FD.encs x.fl := kvb_encs (by have h1 := x.ks_len; have h2 := h.k1; omega) (by have h1 := x.vs_len; have h2 := h.v1; omega)
theorem RWok.ok {x : RW} (h : RWok x) : ∀ y ∈ x.fl, y.Ok := flds_ok h.cr h.md h.ver h.le
theorem RW.msf (x : RW) : MSf x.fl = ⟨x.ks, x.kV_Create, x.kV_Mod, x.kV_Version, x.vs, x.kV_Lease⟩ := MSf_flds _ _ _ _ _ _
theorem RWok.len {x : RW} (h : RWok x) : (FD.encs x.fl).length ≤ 1000000000000 := by
  rw [← h.vb]
  unfold RW.vb kvb
  have h1 := pbyt_len 1 x.ks (by omega)
  have h2 := pint_len 2 x.kV_Create (by omega)
  have h3 := pint_len 3 x.kV_Mod (by omega)
  have h4 := pint_len 4 x.kV_Version (by omega)
  have h5 := pbyt_len 5 x.vs (by omega)
  have h6 := pint_len 6 x.kV_Lease (by omega)
  have h7 := x.ks_len
  have h8 := x.vs_len
  have h9 := h.k1
  have h10 := h.v1
  simp only [List.length_append]; omega


set_option maxHeartbeats 1600000 in
theorem hTomb_false (R : HP) (v : Value) (m s : Int) (hV : RS R 1 v 17 (bytesV (rkey m s false))) :
    Tri Tryz.prog 78 #[v] R [] (fun v__ post__ => v__ = (vB false) ∧ post__ = []) := by
 refine Tri.into (n := 12) (al := [v]) func78 rfl ntmps78 rfl rfl fun w F H => ?_
 refine cR fun _ hK1_ => ?_
 refine sv (v := (vB false)) (x_assign rfl) ?_
 refine wn (hK1_ _ _ ?_)
 refine cR fun _ hK2_ => ?_
 refine sv (v := v) (x_move rfl) ?_
 refine sv (v := (vI .i64 17)) (x_lenRS rfl hV underlying101) ?_
 refine sv (v := (vB false)) (x_bin rfl rfl rfl) ?_
 refine sm (vB false) ?_
 refine S_no (j := 3) (dj := 6) (b := false) rfl rfl rfl (by decide) ?_
 refine S_no (j := 3) (dj := 6) (b := false) rfl rfl rfl (by decide) ?_
 refine S_no (j := 3) (dj := 6) (b := false) rfl rfl rfl (by decide) ?_
 refine S_no (j := 3) (dj := 6) (b := false) rfl rfl rfl (by decide) ?_
 refine S_list (T_pickF (v := (vB false)) rfl rfl ?_)
 refine sv (v := (vB false)) (x_assign rfl) ?_
 refine wn (hK2_ _ _ ?_)
 refine C_ret ?_
 refine R_any (v := (vB false)) (run_results1 rfl rfl) ?_
 exact ⟨_, _, rfl, ⟨rfl, rfl⟩, (Same.refl w), H⟩

set_option maxHeartbeats 1600000 in
theorem hTomb_true (R : HP) (v : Value) (m s : Int) (hV : RS R 1 v 18 (bytesV (rkey m s true))) :
    Tri Tryz.prog 78 #[v] R [] (fun v__ post__ => v__ = (vB true) ∧ post__ = []) := by
 refine Tri.into (n := 12) (al := [v]) func78 rfl ntmps78 rfl rfl fun w F H => ?_
 refine cR fun _ hK1_ => ?_
 refine sv (v := (vB false)) (x_assign rfl) ?_
 refine wn (hK1_ _ _ ?_)
 refine cR fun _ hK2_ => ?_
 refine sv (v := v) (x_move rfl) ?_
 refine sv (v := (vI .i64 18)) (x_lenRS rfl hV underlying101) ?_
 refine sv (v := (vB true)) (x_bin rfl rfl rfl) ?_
 refine sm (vB true) ?_
 refine S_yes (j := 3) (dj := 6) (b := true) rfl rfl rfl (T_val (v := v) (x_move rfl) ?_)
 refine S_yes (j := 3) (dj := 6) (b := true) rfl rfl rfl (T_val (v := (vP (some ⟨(sb v), so v + 17, none⟩))) (x_idxRS (v := v) rfl hV rfl underlying101 z5 (by omega) (by omega) (by omega : _ = 17) (by rw [Nat.mul_one])) ?_)
 refine S_yes (j := 3) (dj := 6) (b := true) rfl rfl rfl (T_val (v := (vI .u8 116)) (x_load1 rfl underlying5 rfl (RC.cell (RS.rc hV) (Holds.ro_at H 0 rfl) (j := 17) (u := (vI .u8 116)) ((map_at (rfl : (rkey m s true)[17]? = some 116))))) ?_)
 refine S_yes (j := 3) (dj := 6) (b := true) rfl rfl rfl (T_val (v := (vB true)) (x_bin rfl rfl rfl) ?_)
 refine S_list (T_pickT (v := (vB true)) rfl rfl ?_)
 refine sv (v := (vB true)) (x_assign rfl) ?_
 refine wn (hK2_ _ _ ?_)
 refine C_ret ?_
 refine R_any (v := (vB true)) (run_results1 rfl rfl) ?_
 exact ⟨_, _, rfl, ⟨rfl, rfl⟩, (Same.refl w), H⟩

theorem hTomb (R : HP) (v : Value) (m s : Int) (t : Bool) (hV : RS R 1 v (rkey m s t).length (bytesV (rkey m s t))) :
    Tri Tryz.prog 78 #[v] R [] (fun v__ post__ => v__ = (vB t) ∧ post__ = []) := by
  cases t
  · exact hTomb_false R v m s hV
  · exact hTomb_true R v m s hV
end Go.Proofs.YtlnihndjepjagaaGreat
set_option linter.unusedVariables false
set_option linter.unusedSimpArgs false
namespace Go.Proofs.YtlnihndjepjagaaGreat
open Go Go.RowKit Gw Tryz
open Go.Value renaming int → vI, bool → vB, slice → vS, pointer → vP, agg → vA, tuple → vT

set_option maxHeartbeats 16000000 in
theorem evKvs (R : HP) (zb kb tb nb wb ib : Nat) (cnt : Int) (PM : List (Nat × GW)) (KM : List (ByteArray × Value)) (S : List Nat) (W : TR) (rv vv : Value) (ks vs : List Value) (L : List RW) (hG : GSt R PM KM S W) (hcn : cnt = (List.length (ino W) : Int) ∧ (ino W).length ≤ List.length PM) (hpl : PM.length ≤ 100000) (hks : RS R 1 rv (List.length ks) ks) (hvs : RS R 1 vv (List.length vs) vs) (hbk : Bts R ks (L.map RW.kb)) (hbv : Bts R vs (L.map RW.vb)) (hln : L.length ≤ 1000) (hok : ∀ x ∈ L, RWok x) (hPP : ∀ x ∈ gws PM, WProper x) :
    TriG Tryz.prog 57 #[(vP none), (Value.iface 120 (vP (some ⟨zb, 0, none⟩))), rv, vv] R [cl zb 97 [(Value.map (some kb)), (Value.iface 183 (vP (some ⟨tb, 0, none⟩))), (Value.map (some wb)), (Value.map (some ib))], mp Value.string kb KM, setsP (List.map Prod.fst PM) S, cl tb 185 [(vP (some ⟨(rt nb W), 0, none⟩)), (vI .i64 cnt), (vP (some ⟨nb, 0, none⟩))], tr nb nb W, clf nb 182 [(Value.nilIface), (Value.nilIface), (Value.nilIface), (Value.nilIface), (vP none), (vP none), (vP none), (vI .i64 0)], mp pn wb (aggm PM)] (fun R' v__ post__ => ∃ (v' : Value) (es : List Value), v__ = v' ∧ post__ = [cl zb 97 [(Value.map (some kb)), (Value.iface 183 (vP (some ⟨tb, 0, none⟩))), (Value.map (some wb)), (Value.map (some ib))], mp Value.string kb KM, setsP (List.map Prod.fst PM) S, cl tb 185 [(vP (some ⟨(rt nb W), 0, none⟩)), (vI .i64 cnt), (vP (some ⟨nb, 0, none⟩))], tr nb nb W, clf nb 182 [(Value.nilIface), (Value.nilIface), (Value.nilIface), (Value.nilIface), (vP none), (vP none), (vP none), (vI .i64 0)], mp pn wb (aggm PM)] ∧ (RS R' 1 v' (List.length es) es) ∧ (EvL R' es (selR (gws PM) L))) := by
 have hl1_ := hbv.1
 have hl2_ := hbk.1
 rw [List.length_map] at hl1_ hl2_
 refine TriG.into (n := 64) (al := [(vP none), (Value.iface 120 (vP (some ⟨zb, 0, none⟩))), rv, vv]) func57 rfl ntmps57 rfl rfl fun w F H => ?_
 refine cR fun _ hK1_ => ?_
 refine sv (v := (vS none 0 0)) (x_assign rfl) ?_
 refine wn (hK1_ _ _ ?_)
 refine C_seq (fun _ hK2_ => ?_)
 refine cR fun _ hK3_ => ?_
 refine sv (v := vv) (x_move rfl) ?_
 refine sv (v := (vI .i64 ((List.length vs) : Int))) (x_lenRS rfl hvs underlying116) ?_
 refine sm (vI .i64 0) ?_
 refine wn (hK3_ _ _ ?_)
 refine C_block ?_
 have H4_ : Holds w (sl 78 1 (vS none 0 0) (List.length ([] : List Value)) ([] : List Value) :: ro R :: cl zb 97 [(Value.map (some kb)), (Value.iface 183 (vP (some ⟨tb, 0, none⟩))), (Value.map (some wb)), (Value.map (some ib))] :: mp Value.string kb KM :: setsP (List.map Prod.fst PM) S :: cl tb 185 [(vP (some ⟨(rt nb W), 0, none⟩)), (vI .i64 cnt), (vP (some ⟨nb, 0, none⟩))] :: tr nb nb W :: clf nb 182 [(Value.nilIface), (Value.nilIface), (Value.nilIface), (Value.nilIface), (vP none), (vP none), (vP none), (vI .i64 0)] :: mp pn wb (aggm PM) :: F) := Holds.add_nil H 78 1
 refine C_loop (γ := HP × Nat × Value × (List Value)) (fun x__ a__ w1__ => match x__ with | ⟨R1, k, cv, es⟩ => ∃ h : Env, a__ = mkA 64 (upd (upd (upd (upd (upd (upd h 1 (Value.iface 120 (vP (some ⟨zb, 0, none⟩)))) 2 rv) 8 cv) 14 vv) 15 (vI .i64 ((List.length vs) : Int))) 16 (vI .i64 (k : Int))) [] ∧ Holds w1__ (sl 78 1 cv (List.length es) es :: ro R1 :: cl zb 97 [(Value.map (some kb)), (Value.iface 183 (vP (some ⟨tb, 0, none⟩))), (Value.map (some wb)), (Value.map (some ib))] :: mp Value.string kb KM :: setsP (List.map Prod.fst PM) S :: cl tb 185 [(vP (some ⟨(rt nb W), 0, none⟩)), (vI .i64 cnt), (vP (some ⟨nb, 0, none⟩))] :: tr nb nb W :: clf nb 182 [(Value.nilIface), (Value.nilIface), (Value.nilIface), (Value.nilIface), (vP none), (vP none), (vP none), (vI .i64 0)] :: mp pn wb (aggm PM) :: F) ∧ Same w w1__ ∧ (Sub R R1) ∧ (k ≤ vs.length) ∧ (EvL R1 es (selR (gws PM) (L.take k)))) (fun x__ => match x__ with | ⟨R1, k, cv, es⟩ => vs.length - k) (⟨R, 0, (vS none 0 0), ([] : List Value)⟩) ⟨_, congrArg (fun e => mkA 64 e []) (ch (ch (ch (ch (ch (ch rfl rfl) rfl) (rfl : (vS none 0 0) = ((vS none 0 0)))) rfl) rfl) (congrArg (vI .i64) ((by first | rfl | omega | (simp; done) | (simp; omega)) : 0 = (0 : Int)))), H4_, (Same.refl w), (Sub.rfl' _), (by first | assumption | omega | exact rfl), (EvL.nil)⟩ ?_
 rintro ⟨R1, k, cv, es⟩ _ w5_ ⟨h, rfl, H6_, S7_, hsR1, hkk, hE⟩
 refine cR fun _ hK8_ => ?_
 refine sv (v := (vB (decide ((k : Int) < ((List.length vs) : Int))))) (x_bin rfl rfl rfl) ?_
 refine wn (hK8_ _ _ ?_)
 refine C_seq (fun _ hK9_ => ?_)
 refine C_cond (b := decide ((k : Int) < ((List.length vs) : Int))) rfl (fun c10_t => ?_) (fun c10_f => ?_)
 ·have c10_tp : (k : Int) < ((List.length vs) : Int) := of_decide_eq_true c10_t
  refine C_skip (X_then (hK9_ _ _ ?_))
  refine C_seq (fun _ hK11_ => ?_)
  refine C_block ?_
  refine cR fun _ hK12_ => ?_
  refine sm (vI .i64 (k : Int)) ?_
  obtain ⟨x13_, hx14_, hm15_⟩ := elem_at L k (by omega)
  have hw16_ := hok x13_ hm15_
  obtain ⟨kn17_, hk18_, hr19_⟩ := hbv.at_ (map_at hx14_)
  have hkl1_ := x13_.ks_len
  have hkl2_ := x13_.vs_len
  have hk0_ := hw16_.k0
  have hk1_ := hw16_.k1
  have hv1_ := hw16_.v1
  refine sv (v := (vP (some ⟨(sb vv), so vv + k, none⟩))) (x_idxRS (v := vv) rfl (RS.mono hvs hsR1) rfl underlying116 z101 (by omega) (by omega) (by omega : _ = k) (by rw [Nat.mul_one])) ?_
  refine sv (v := kn17_) (x_load1 rfl underlying101 rfl (RC.cell (RS.rc (RS.mono hvs hsR1)) (Holds.ro_at H6_ 1 rfl) (j := k) (u := kn17_) (hk18_))) ?_
  refine sv (v := (vI .i64 (k : Int))) (x_assign rfl) ?_
  refine sv (v := kn17_) (x_assign rfl) ?_
  refine wn (hK12_ _ _ ?_)
  refine cR fun _ hK20_ => ?_
  refine sv (v := (vA #[(vS none 0 0), (vI .i64 0), (vI .i64 0), (vI .i64 0), (vS none 0 0), (vI .i64 0)])) (by kernel_rfl) ?_
  refine S_list (T_box (v := (vA #[(vS none 0 0), (vI .i64 0), (vI .i64 0), (vI .i64 0), (vS none 0 0), (vI .i64 0)])) rfl H6_ ?_)
  intro b21_ w22_ S24_ H23_
  have S25_ := Same.trans S7_ S24_
  refine sv (v := (vP (some ⟨b21_, 0, none⟩))) (x_assign rfl) ?_
  refine wn (hK20_ _ _ ?_)
  refine C_seq (fun _ hK26_ => ?_)
  refine cR fun _ hK27_ => ?_
  refine sv (v := kn17_) (x_move rfl) ?_
  refine sm (vP (some ⟨b21_, 0, none⟩)) ?_
  refine sv (v := (Value.iface 126 (vP (some ⟨b21_, 0, none⟩)))) (by kernel_rfl) ?_
  refine S_list (T_callW (al := [kn17_, (Value.iface 126 (vP (some ⟨b21_, 0, none⟩)))]) rfl rfl cb77 (Calls.into (n := 10) func77 rfl ntmps77 rfl rfl ?_))
  refine cR fun _ hK28_ => ?_
  refine sv (v := (Value.nilIface)) (x_assign rfl) ?_
  refine wn (hK28_ _ _ ?_)
  refine C_seq (fun _ hK29_ => ?_)
  refine cR fun _ hK30_ => ?_
  refine sm (Value.iface 126 (vP (some ⟨b21_, 0, none⟩))) ?_
  refine sv (v := kn17_) (x_move rfl) ?_
  have hvb31_ : RS R1 1 kn17_ (List.length (FD.encs x13_.fl)) (bytesV (FD.encs x13_.fl)) := by rw [← hw16_.vb]; exact (RS.mono hr19_ hsR1)
  have H39_ := ((Holds.bring H23_ 2 rfl) :)
  refine S_list (T_invokeG (al := [(vP (some ⟨b21_, 0, none⟩)), kn17_]) (pre := [cl b21_ 158 [(vS none 0 0), (vI .i64 0), (vI .i64 0), (vI .i64 0), (vS none 0 0), (vI .i64 0)]]) rfl (fun w => by kernel_rfl) rfl cb141 (tFields R1 b21_ kn17_ x13_.fl (hvb31_) (hw16_.ok) (hw16_.len)) H39_ ?_)
  rintro R33_ v34_ p43_ w40_ hs32_ ⟨kv35_, vv36_, rfl, rfl, he37_, he38_⟩ S42_ H41_
  have S44_ := Same.trans S25_ S42_
  have hz_R_R33_ := Sub.trans' hsR1 hs32_
  have hkk45_ : RS R33_ 1 kv35_ (List.length x13_.ks) (bytesV x13_.ks) := by have h__ := he37_; rw [x13_.msf] at h__; exact h__
  have hkv46_ : RS R33_ 1 vv36_ (List.length x13_.vs) (bytesV x13_.vs) := by have h__ := he38_; rw [x13_.msf] at h__; exact h__
  have H47_ : Holds w40_ (ro R33_ :: cl b21_ 158 [kv35_, (vI .i64 x13_.kV_Create), (vI .i64 x13_.kV_Mod), (vI .i64 x13_.kV_Version), vv36_, (vI .i64 x13_.kV_Lease)] :: sl 78 1 cv (List.length es) es :: cl zb 97 [(Value.map (some kb)), (Value.iface 183 (vP (some ⟨tb, 0, none⟩))), (Value.map (some wb)), (Value.map (some ib))] :: mp Value.string kb KM :: setsP (List.map Prod.fst PM) S :: cl tb 185 [(vP (some ⟨(rt nb W), 0, none⟩)), (vI .i64 cnt), (vP (some ⟨nb, 0, none⟩))] :: tr nb nb W :: clf nb 182 [(Value.nilIface), (Value.nilIface), (Value.nilIface), (Value.nilIface), (vP none), (vP none), (vP none), (vI .i64 0)] :: mp pn wb (aggm PM) :: F) := cast1 (P := fun (c__ : List Value) => Holds w40_ (ro R33_ :: cl b21_ 158 c__ :: sl 78 1 cv (List.length es) es :: cl zb 97 [(Value.map (some kb)), (Value.iface 183 (vP (some ⟨tb, 0, none⟩))), (Value.map (some wb)), (Value.map (some ib))] :: mp Value.string kb KM :: setsP (List.map Prod.fst PM) S :: cl tb 185 [(vP (some ⟨(rt nb W), 0, none⟩)), (vI .i64 cnt), (vP (some ⟨nb, 0, none⟩))] :: tr nb nb W :: clf nb 182 [(Value.nilIface), (Value.nilIface), (Value.nilIface), (Value.nilIface), (vP none), (vP none), (vP none), (vI .i64 0)] :: mp pn wb (aggm PM) :: F)) (by rw [x13_.msf] : [kv35_, (vI .i64 ((MSf x13_.fl).cr)), (vI .i64 ((MSf x13_.fl).md)), (vI .i64 ((MSf x13_.fl).ver)), vv36_, (vI .i64 ((MSf x13_.fl).le))] = [kv35_, (vI .i64 x13_.kV_Create), (vI .i64 x13_.kV_Mod), (vI .i64 x13_.kV_Version), vv36_, (vI .i64 x13_.kV_Lease)]) H41_
  refine sv (v := (vB false)) (x_cast (x_not (b := true) rfl) rfl) ?_
  refine wn (hK30_ _ _ ?_)
  refine C_condF rfl ?_
  refine C_skip (X_then (hK29_ _ _ ?_))
  refine cR fun _ hK48_ => ?_
  refine sv (v := (Value.nilIface)) (x_assign rfl) ?_
  refine wn (hK48_ _ _ ?_)
  refine C_ret ?_
  refine R_any (v := (Value.nilIface)) (run_results1 rfl rfl) ⟨_, rfl, ?_⟩
  refine sv (v := (Value.nilIface)) (x_assign rfl) ?_
  refine wn (hK27_ _ _ ?_)
  refine cR fun _ hK49_ => ?_
  refine sm (Value.nilIface) ?_
  refine sv (v := (vB false)) (by kernel_rfl) ?_
  refine wn (hK49_ _ _ ?_)
  refine C_condF rfl ?_
  refine C_skip (X_then (hK26_ _ _ ?_))
  refine C_seq (fun _ hK50_ => ?_)
  refine C_seq (fun _ hK51_ => ?_)
  refine A_start (S := fun w => Rd b21_ [kv35_, (vI .i64 x13_.kV_Create), (vI .i64 x13_.kV_Mod), (vI .i64 x13_.kV_Version), vv36_, (vI .i64 x13_.kV_Lease)] w ∧ SlRd cv es w ∧ Rd zb [(Value.map (some kb)), (Value.iface 183 (vP (some ⟨tb, 0, none⟩))), (Value.map (some wb)), (Value.map (some ib))] w ∧ MpRd Value.string kb KM w ∧ Rd tb [(vP (some ⟨(rt nb W), 0, none⟩)), (vI .i64 cnt), (vP (some ⟨nb, 0, none⟩))] w ∧ RtRd w (rt nb W) (rmx W) ∧ (Rd nb [(Value.nilIface), (Value.nilIface), (Value.nilIface), (Value.nilIface), (vP none), (vP none), (vP none), (vI .i64 0)] w ∧ Blk w nb) ∧ MpRd pn wb (aggm PM) w ∧ Sub R33_ (hp w)) (N := 11) foll rfl rfl ?_
  have H52_ := Holds.drew_ H47_
  have hq53_ := And.intro (Holds.rd H52_ 1 rfl) (And.intro (Holds.slrd H52_ 2 rfl) (And.intro (Holds.rd H52_ 3 rfl) (And.intro (Holds.mprd H52_ 4 rfl) (And.intro (Holds.rd H52_ 6 rfl) (And.intro (Holds.tr_rd H52_ 7 rfl 8 rfl) (And.intro ((And.intro (Holds.rdf H52_ 8 rfl) (Holds.blk H52_ 8 rfl))) (And.intro (Holds.mprd H52_ 9 rfl) ((Holds.ro_at H52_ 0 rfl)))))))))
  refine A_tk 0 (v := (Value.iface 120 (vP (some ⟨zb, 0, none⟩)))) rfl (by kernel_rfl) (fun w hS => x_move rfl) hq53_ ?_
  refine A_tk 1 (v := (vP (some ⟨b21_, 0, none⟩))) rfl (by kernel_rfl) (fun w hS => x_move rfl) hq53_ ?_
  refine A_tk 2 (v := (vP (some ⟨b21_, 0, none⟩))) rfl (by kernel_rfl) (fun w hS => by kernel_rfl) hq53_ ?_
  refine A_tk 3 (v := (vP (some ⟨b21_, 0, none⟩))) rfl (by kernel_rfl) (fun w hS => by kernel_rfl) hq53_ ?_
  refine A_tk 4 (v := kv35_) rfl (by kernel_rfl) (fun w hS => x_load1 rfl underlying101 rfl (hS.1 0 kv35_ rfl)) hq53_ ?_
  refine A_tk 5 (v := (Value.string (strN x13_.ks))) rfl (by kernel_rfl) (fun w hS => x_b2sRS rfl hkk45_ hS.2.2.2.2.2.2.2.2 underlying101 underlying5 underlying9) hq53_ ?_
  refine A_tk 6 (v := ((Value.func (.method "pub-stadtholder/pub/etcdserver/storage/mvcc.contains") #[(Value.iface 120 (vP (some ⟨zb, 0, none⟩)))] #[]))) rfl (by kernel_rfl) (fun w hS => by kernel_rfl) hq53_ ?_
  refine A_tk 7 (v := ((Value.func (.method "pub-stadtholder/pub/etcdserver/storage/mvcc.contains") #[(Value.iface 120 (vP (some ⟨zb, 0, none⟩)))] #[]))) rfl (by kernel_rfl) (fun w hS => by kernel_rfl) hq53_ ?_
  refine A_tk 8 (v := (Value.iface 120 (vP (some ⟨zb, 0, none⟩)))) rfl (by kernel_rfl) (fun w hS => x_move rfl) hq53_ ?_
  refine A_ready (i := 9) (rs := []) (by kernel_rfl) ?_
  refine AllR.cons ?_ AllR.nil
  have H55_ := ((Holds.bring (Holds.bring (Holds.bring (Holds.bring (Holds.bring (Holds.bring (Holds.bring (Holds.bring H52_ 9 rfl) 9 rfl) 9 rfl) 9 rfl) 9 rfl) 9 rfl) 9 rfl) 7 rfl) :)
  refine A_op (ls' := #[true, true, true, true, true, true, true, true, true, true, false]) rfl (by kernel_rfl) (T_invoke (al := [(vP (some ⟨zb, 0, none⟩)), (Value.string (strN x13_.ks))]) (pre := [cl zb 97 [(Value.map (some kb)), (Value.iface 183 (vP (some ⟨tb, 0, none⟩))), (Value.map (some wb)), (Value.map (some ib))], mp Value.string kb KM, setsP (List.map Prod.fst PM) S, cl tb 185 [(vP (some ⟨(rt nb W), 0, none⟩)), (vI .i64 cnt), (vP (some ⟨nb, 0, none⟩))], tr nb nb W, clf nb 182 [(Value.nilIface), (Value.nilIface), (Value.nilIface), (Value.nilIface), (vP none), (vP none), (vP none), (vI .i64 0)], mp pn wb (aggm PM)]) rfl (fun w => by kernel_rfl) rfl cb67 (ggContains R33_ zb kb tb nb wb ib cnt PM KM S W (strN x13_.ks) ((hG.mono hz_R_R33_)) (hcn) (hpl) (by rw [strN_size']; omega) (by rw [strN_size']; omega) (hPP)) H55_ ?_)
  rintro v54_ p59_ w56_ ⟨rfl, rfl⟩ S58_ H57_
  have S60_ := Same.trans (Same.trans S44_ (Same.drew _)) S58_
  refine ⟨⟨Holds.rd H57_ 8 rfl, Holds.slrd H57_ 9 rfl, Holds.rd H57_ 1 rfl, Holds.mprd H57_ 2 rfl, Holds.rd H57_ 4 rfl, Holds.tr_rd H57_ 5 rfl 6 rfl, (And.intro (Holds.rdf H57_ 6 rfl) (Holds.blk H57_ 6 rfl)), Holds.mprd H57_ 7 rfl, (Holds.ro_at H57_ 0 rfl)⟩, ?_⟩
  have hq61_ := And.intro (Holds.rd H57_ 8 rfl) (And.intro (Holds.slrd H57_ 9 rfl) (And.intro (Holds.rd H57_ 1 rfl) (And.intro (Holds.mprd H57_ 2 rfl) (And.intro (Holds.rd H57_ 4 rfl) (And.intro (Holds.tr_rd H57_ 5 rfl 6 rfl) (And.intro ((And.intro (Holds.rdf H57_ 6 rfl) (Holds.blk H57_ 6 rfl))) (And.intro (Holds.mprd H57_ 7 rfl) ((Holds.ro_at H57_ 0 rfl)))))))))
  refine A_tk 10 (v := (vB (!(List.any (gws PM) (fun x => seesB x (strN x13_.ks)))))) rfl (by kernel_rfl) (fun w hS => x_not rfl) hq61_ ?_
  refine A_done (by kernel_rfl) ?_
  refine (X_then (hK51_ _ _ ?_))
  refine C_cond (b := !(List.any (gws PM) (fun x => seesB x (strN x13_.ks)))) rfl (fun c62_t => ?_) (fun c62_f => ?_)
  ·skip
   refine C_exit (X_thenX (X_blkHit ?_))
   refine (X_then (hK11_ _ _ ?_))
   refine C_reg ?_
   refine sv (v := (vI .i64 ((k : Int) + 1))) (x_bin rfl rfl (ib_add (IntWalk.i64_in _ (by omega)))) ?_
   refine sm (vI .i64 ((k : Int) + 1)) ?_
   refine wpList_nil (X_then ?_)
   have H63_ := Holds.pkF H57_ [9, 0, 0, 0, 0, 0, 0, 0, 0] 1
   exact ⟨⟨R33_, k + 1, cv, es⟩, ⟨_, congrArg (fun e => mkA 64 e []) (ch (ch (ch (ch (ch (ch rfl rfl) rfl) rfl) rfl) rfl) (congrArg (vI .i64) ((by first | rfl | omega | (simp; done) | (simp; omega)) : (k : Int) + 1 = ((k + 1 : Nat) : Int)))), H63_, S60_, (hz_R_R33_), (by first | assumption | omega | exact rfl), (by rw [selR_no hx14_ (by simpa using c62_t)]; exact (hE.mono hs32_))⟩, by first | omega | (dsimp only; omega) | (simp; omega)⟩
  ·skip
   refine C_skip (X_then (hK50_ _ _ ?_))
   refine cR fun _ hK64_ => ?_
   refine sv (v := (vI .i32 0)) (x_assign rfl) ?_
   refine wn (hK64_ _ _ ?_)
   refine C_seq (fun _ hK65_ => ?_)
   refine cR fun _ hK66_ => ?_
   refine sv (v := rv) (x_move rfl) ?_
   refine sm (vI .i64 (k : Int)) ?_
   obtain ⟨kn67_, hk68_, hr69_⟩ := hbk.at_ (map_at hx14_)
   refine sv (v := (vP (some ⟨(sb rv), so rv + k, none⟩))) (x_idxRS (v := rv) rfl (RS.mono hks hz_R_R33_) rfl underlying116 z101 (by omega) (by omega) (by omega : _ = k) (by rw [Nat.mul_one])) ?_
   refine sv (v := kn67_) (x_load1 rfl underlying101 rfl (RC.cell (RS.rc (RS.mono hks hz_R_R33_)) (Holds.ro_at H57_ 0 rfl) (j := k) (u := kn67_) (hk68_))) ?_
   refine S_list (T_call (al := [kn67_]) (pre := []) rfl rfl cb78 (hTomb R33_ kn67_ x13_.rev_Main x13_.rev_Sub x13_.gone (RS.set_ (RS.mono hr69_ hz_R_R33_) (by first | rfl | (simp [GW.cells, GO.cells, GA.cells, RW.cells, ZR.cells, RV.cells, MR.cells]; done)) (by first | rfl | omega | (simp; done) | (simp; omega)))) H57_ ?_)
   rintro v70_ p74_ w71_ ⟨rfl, rfl⟩ S73_ H72_
   have S75_ := Same.trans S60_ S73_
   refine wn (hK66_ _ _ ?_)
   refine C_cond (b := x13_.gone) rfl (fun c76_t => ?_) (fun c76_f => ?_)
   ·skip
    refine cR fun _ hK77_ => ?_
    refine sv (v := (vI .i32 1)) (x_assign rfl) ?_
    refine wn (hK77_ _ _ ?_)
    refine C_reg ?_
    refine sm (vP (some ⟨b21_, 0, none⟩)) ?_
    refine sv (v := rv) (x_move rfl) ?_
    refine sm (vI .i64 (k : Int)) ?_
    refine sv (v := (vP (some ⟨(sb rv), so rv + k, none⟩))) (x_idxRS (v := rv) rfl (RS.mono hks hz_R_R33_) rfl underlying116 z101 (by omega) (by omega) (by omega : _ = k) (by rw [Nat.mul_one])) ?_
    refine sv (v := kn67_) (x_load1 rfl underlying101 rfl (RC.cell (RS.rc (RS.mono hks hz_R_R33_)) (Holds.ro_at H72_ 0 rfl) (j := k) (u := kn67_) (hk68_))) ?_
    refine S_list (T_callW (al := [kn67_]) rfl rfl cb79 (Calls.into (n := 6) func79 rfl ntmps79 rfl rfl ?_))
    refine cR fun _ hK78_ => ?_
    refine S_list (T_alloc z121 H72_ ?_)
    intro b79_ w80_ S82_ H81_
    have S83_ := Same.trans S75_ S82_
    refine wn (hK78_ _ _ ?_)
    refine cR fun _ hK84_ => ?_
    refine sv (v := kn67_) (x_move rfl) ?_
    have H86_ := ((Holds.bring H81_ 1 rfl) :)
    refine S_list (T_call (al := [kn67_]) (pre := []) rfl rfl cb110 (hBack R33_ kn67_ x13_.rev_Main x13_.rev_Sub x13_.gone (RS.set_ (RS.mono hr69_ hz_R_R33_) (by first | rfl | (simp [GW.cells, GO.cells, GA.cells, RW.cells, ZR.cells, RV.cells, MR.cells]; done)) (by first | rfl | omega | (simp; done) | (simp; omega))) (hw16_.m0) (hw16_.m1) (hw16_.s0) (hw16_.s1)) H86_ ?_)
    rintro v85_ p90_ w87_ ⟨rfl, rfl⟩ S89_ H88_
    have S91_ := Same.trans S83_ S89_
    refine sv (v := (vA #[(vI .i64 x13_.rev_Main), (vI .i64 x13_.rev_Sub)])) (by kernel_rfl) ?_
    refine S_list0 (T_storeN (vs := [(vI .i64 x13_.rev_Main), (vI .i64 x13_.rev_Sub)]) rfl rfl z121 rfl (by simp [Value.oneCell']) H88_ 1 rfl (Nat.le_of_ble_eq_true (by rfl)) ?_)
    intro w92_ S94_ H93_
    have S95_ := Same.trans S91_ S94_
    refine wn (hK84_ _ _ ?_)
    refine C_ret ?_
    refine R_any (v := (vA #[(vI .i64 x13_.rev_Main), (vI .i64 x13_.rev_Sub)])) (run_results1 rfl ⟨_, rfl, load_resN underlying121 rfl z121 rfl (vs := [(vI .i64 x13_.rev_Main), (vI .i64 x13_.rev_Sub)]) (Holds.cl_cells H93_ 1 rfl 0 rfl)⟩) ⟨_, rfl, ?_⟩
    refine sv (v := (vI .i64 x13_.rev_Main)) (by kernel_rfl) ?_
    refine sv (v := (vP (some ⟨b21_, 0, none⟩))) (by kernel_rfl) ?_
    refine sv (v := (vP (some ⟨b21_, 2, none⟩))) (by kernel_rfl) ?_
    refine S_list0 (T_store1 (v := (vI .i64 x13_.rev_Main)) rfl rfl z2 rfl H93_ 9 rfl (Nat.le_of_ble_eq_true (by rfl)) ?_)
    intro w96_ S98_ H97_
    have S99_ := Same.trans S95_ S98_
    refine wn (hK65_ _ _ ?_)
    refine C_reg ?_
    refine sv (v := cv) (x_move rfl) ?_
    refine sm (vP (some ⟨b21_, 0, none⟩)) ?_
    refine sm (vI .i32 1) ?_
    refine sv (v := (vA #[(vI .i32 1), (vP (some ⟨b21_, 0, none⟩)), (vP none)])) (by kernel_rfl) ?_
    refine S_list (T_box (v := (vA #[(vI .i32 1), (vP (some ⟨b21_, 0, none⟩)), (vP none)])) rfl H97_ ?_)
    intro b100_ w101_ S103_ H102_
    have S104_ := Same.trans S99_ S103_
    refine S_list (T_new (obj := .cells #[(vP (some ⟨b100_, 0, none⟩))] 78) (f := fun b__ => .slice (some ⟨b__, 0, none⟩) 1 1) (A := fun b__ => cl b__ 78 [(vP (some ⟨b100_, 0, none⟩))]) (by kernel_rfl) (fun l h => h.alloc _ _) H102_ ?_)
    intro b105_ w106_ S108_ H107_
    have S109_ := Same.trans S104_ S108_
    refine S_list (T_append rfl rfl underlying73 z78 rfl (by decide) H107_ 12 rfl (Holds.cl_src H107_ 0 rfl underlying73 (by simp [Value.oneCell']) rfl) (by have h1__ := hE.1; have h2__ := selR_len (gws PM) L k; omega) ?_)
    intro v110_ w111_ S113_ H112_
    have S114_ := Same.trans S109_ S113_
    refine sv (v := v110_) (x_assign rfl) ?_
    refine wpList_nil (X_blkN (X_then (hK11_ _ _ ?_)))
    refine C_reg ?_
    refine sv (v := (vI .i64 ((k : Int) + 1))) (x_bin rfl rfl (ib_add (IntWalk.i64_in _ (by omega)))) ?_
    refine sm (vI .i64 ((k : Int) + 1)) ?_
    refine wpList_nil (X_then ?_)
    have H115_ := ((Holds.bring (Holds.bring H112_ 11 rfl) 3 rfl) :)
    obtain ⟨R116_, hs117_, ⟨R118_, ha119_, hs120_⟩, H121_⟩ := Holds.gift H115_
    have hz_R_R116_ := Sub.trans' hz_R_R33_ hs117_
    have hz_R1_R116_ := Sub.trans' hs32_ hs117_
    have hr122_ : RC R116_ b21_ 0 [kv35_, (vI .i64 x13_.kV_Create), (vI .i64 x13_.rev_Main), (vI .i64 x13_.kV_Version), vv36_, (vI .i64 x13_.kV_Lease)] := (cl_RC ha119_ (Sub.rfl' _)).mono hs120_
    have H123_ := ((Holds.bring (Holds.bring H121_ 2 rfl) 1 rfl) :)
    obtain ⟨R124_, hs125_, ⟨R126_, ha127_, hs128_⟩, H129_⟩ := Holds.gift H123_
    have hz_R_R124_ := Sub.trans' hz_R_R116_ hs125_
    have hz_R1_R124_ := Sub.trans' hz_R1_R116_ hs125_
    have hz_R33__R124_ := Sub.trans' hs117_ hs125_
    have hr130_ : RC R124_ b100_ 0 [(vI .i32 1), (vP (some ⟨b21_, 0, none⟩)), (vP none)] := (cl_RC ha127_ (Sub.rfl' _)).mono hs128_
    have hev131_ : EvAt R124_ (.pointer (some ⟨b100_, 0, none⟩)) x13_ := ⟨b100_, b21_, kv35_, vv36_, rfl, by rw [show x13_.gone = true by simpa using c76_t]; exact hr130_, by rw [show x13_.gone = true by simpa using c76_t]; exact (hr122_.mono hs125_), (hkk45_.mono hz_R33__R124_), (hkv46_.mono hz_R33__R124_)⟩
    have H132_ := Holds.resl H129_ 10 rfl (rfl : es ++ [(vP (some ⟨b100_, 0, none⟩))] = (es ++ [(vP (some ⟨b100_, 0, none⟩))])) ((by first | rfl | omega | (simp; done) | (simp; omega)) : (List.length es) + 1 = (List.length (es ++ [(vP (some ⟨b100_, 0, none⟩))])))
    have H133_ := Holds.pkF H132_ [10, 0, 2, 2, 2, 2, 2, 2, 2] 2
    exact ⟨⟨R124_, k + 1, v110_, (es ++ [(vP (some ⟨b100_, 0, none⟩))])⟩, ⟨_, congrArg (fun e => mkA 64 e []) (ch (ch (ch (ch (ch (ch rfl rfl) rfl) rfl) rfl) rfl) (congrArg (vI .i64) ((by first | rfl | omega | (simp; done) | (simp; omega)) : (k : Int) + 1 = ((k + 1 : Nat) : Int)))), H133_, S114_, (hz_R_R124_), (by first | assumption | omega | exact rfl), (by rw [selR_yes hx14_ (by simpa using c62_f)]; exact EvL.snoc (hE.mono hz_R1_R124_) hev131_)⟩, by first | omega | (dsimp only; omega) | (simp; omega)⟩
   ·skip
    refine C_skip (X_then (hK65_ _ _ ?_))
    refine C_reg ?_
    refine sv (v := cv) (x_move rfl) ?_
    refine sm (vP (some ⟨b21_, 0, none⟩)) ?_
    refine sm (vI .i32 0) ?_
    refine sv (v := (vA #[(vI .i32 0), (vP (some ⟨b21_, 0, none⟩)), (vP none)])) (by kernel_rfl) ?_
    refine S_list (T_box (v := (vA #[(vI .i32 0), (vP (some ⟨b21_, 0, none⟩)), (vP none)])) rfl H72_ ?_)
    intro b134_ w135_ S137_ H136_
    have S138_ := Same.trans S75_ S137_
    refine S_list (T_new (obj := .cells #[(vP (some ⟨b134_, 0, none⟩))] 78) (f := fun b__ => .slice (some ⟨b__, 0, none⟩) 1 1) (A := fun b__ => cl b__ 78 [(vP (some ⟨b134_, 0, none⟩))]) (by kernel_rfl) (fun l h => h.alloc _ _) H136_ ?_)
    intro b139_ w140_ S142_ H141_
    have S143_ := Same.trans S138_ S142_
    refine S_list (T_append rfl rfl underlying73 z78 rfl (by decide) H141_ 11 rfl (Holds.cl_src H141_ 0 rfl underlying73 (by simp [Value.oneCell']) rfl) (by have h1__ := hE.1; have h2__ := selR_len (gws PM) L k; omega) ?_)
    intro v144_ w145_ S147_ H146_
    have S148_ := Same.trans S143_ S147_
    refine sv (v := v144_) (x_assign rfl) ?_
    refine wpList_nil (X_blkN (X_then (hK11_ _ _ ?_)))
    refine C_reg ?_
    refine sv (v := (vI .i64 ((k : Int) + 1))) (x_bin rfl rfl (ib_add (IntWalk.i64_in _ (by omega)))) ?_
    refine sm (vI .i64 ((k : Int) + 1)) ?_
    refine wpList_nil (X_then ?_)
    have H149_ := ((Holds.bring (Holds.bring H146_ 10 rfl) 3 rfl) :)
    obtain ⟨R150_, hs151_, ⟨R152_, ha153_, hs154_⟩, H155_⟩ := Holds.gift H149_
    have hz_R_R150_ := Sub.trans' hz_R_R33_ hs151_
    have hz_R1_R150_ := Sub.trans' hs32_ hs151_
    have hr156_ : RC R150_ b21_ 0 [kv35_, (vI .i64 x13_.kV_Create), (vI .i64 x13_.kV_Mod), (vI .i64 x13_.kV_Version), vv36_, (vI .i64 x13_.kV_Lease)] := (cl_RC ha153_ (Sub.rfl' _)).mono hs154_
    have H157_ := ((Holds.bring (Holds.bring H155_ 2 rfl) 1 rfl) :)
    obtain ⟨R158_, hs159_, ⟨R160_, ha161_, hs162_⟩, H163_⟩ := Holds.gift H157_
    have hz_R_R158_ := Sub.trans' hz_R_R150_ hs159_
    have hz_R1_R158_ := Sub.trans' hz_R1_R150_ hs159_
    have hz_R33__R158_ := Sub.trans' hs151_ hs159_
    have hr164_ : RC R158_ b134_ 0 [(vI .i32 0), (vP (some ⟨b21_, 0, none⟩)), (vP none)] := (cl_RC ha161_ (Sub.rfl' _)).mono hs162_
    have hev165_ : EvAt R158_ (.pointer (some ⟨b134_, 0, none⟩)) x13_ := ⟨b134_, b21_, kv35_, vv36_, rfl, by rw [show x13_.gone = false by simpa using c76_f]; exact hr164_, by rw [show x13_.gone = false by simpa using c76_f]; exact (hr156_.mono hs159_), (hkk45_.mono hz_R33__R158_), (hkv46_.mono hz_R33__R158_)⟩
    have H166_ := Holds.resl H163_ 9 rfl (rfl : es ++ [(vP (some ⟨b134_, 0, none⟩))] = (es ++ [(vP (some ⟨b134_, 0, none⟩))])) ((by first | rfl | omega | (simp; done) | (simp; omega)) : (List.length es) + 1 = (List.length (es ++ [(vP (some ⟨b134_, 0, none⟩))])))
    have H167_ := Holds.pkF H166_ [9, 0, 1, 1, 1, 1, 1, 1, 1] 1
    exact ⟨⟨R158_, k + 1, v144_, (es ++ [(vP (some ⟨b134_, 0, none⟩))])⟩, ⟨_, congrArg (fun e => mkA 64 e []) (ch (ch (ch (ch (ch (ch rfl rfl) rfl) rfl) rfl) rfl) (congrArg (vI .i64) ((by first | rfl | omega | (simp; done) | (simp; omega)) : (k : Int) + 1 = ((k + 1 : Nat) : Int)))), H167_, S148_, (hz_R_R158_), (by first | assumption | omega | exact rfl), (by rw [selR_yes hx14_ (by simpa using c62_f)]; exact EvL.snoc (hE.mono hz_R1_R158_) hev165_)⟩, by first | omega | (dsimp only; omega) | (simp; omega)⟩
 ·have c10_fp : ¬ ((k : Int) < ((List.length vs) : Int)) := of_decide_eq_false c10_f
  refine C_exit (X_thenX (X_thenX (X_blkHit ?_)))
  refine (X_then (hK2_ _ _ ?_))
  refine cR fun _ hK168_ => ?_
  refine sv (v := cv) (x_move rfl) ?_
  refine sv (v := cv) (x_assign rfl) ?_
  refine wn (hK168_ _ _ ?_)
  refine C_ret ?_
  refine R_any (v := cv) (run_results1 rfl rfl) ?_
  have H169_ := ((Holds.bring H6_ 1 rfl) :)
  obtain ⟨R170_, hs171_, ⟨R172_, ha173_, hs174_⟩, H175_⟩ := Holds.gift H169_
  have hz_R_R170_ := Sub.trans' hsR1 hs171_
  have hr176_ : RS R170_ 1 cv (List.length es) es := (sl_RS ha173_ (Sub.rfl' _)).mono hs174_
  exact ⟨R170_, _, _, rfl, hz_R_R170_, ⟨cv, es, rfl, rfl, (hr176_), (by rw [List.take_of_length_le (by omega)] at hE; exact (hE.mono hs171_))⟩, S7_, H175_⟩
end Go.Proofs.YtlnihndjepjagaaGreat
set_option linter.unusedVariables false
set_option linter.unusedSimpArgs false
namespace Go.Proofs.YtlnihndjepjagaaGreat
open Go Go.RowKit Gw Tryz
open Go.Value renaming int → vI, bool → vB, slice → vS, pointer → vP, agg → vA, tuple → vT

structure EV where
  gone : Bool
  kV_Key : ByteArray
  kV_Value : ByteArray
  kV_Create : Int
  kV_Mod : Int
  kV_Version : Int
  kV_Lease : Int
def EV.cells (x : EV) : List Value := [(vB x.gone), (Value.string x.kV_Key), (Value.string x.kV_Value), (vI .i64 x.kV_Create), (vI .i64 x.kV_Mod), (vI .i64 x.kV_Version), (vI .i64 x.kV_Lease)]
theorem EV.len (x : EV) : x.cells.length = 7 := rfl

def evOf (x : RW) : EV := ⟨x.gone, strN x.ks, strN x.vs, x.kV_Create, if x.gone then x.rev_Main else x.kV_Mod, x.kV_Version, x.kV_Lease⟩

set_option maxHeartbeats 8000000 in
theorem evZz (R : HP) (zb kb tb nb wb ib : Nat) (cnt : Int) (PM : List (Nat × GW)) (KM : List (ByteArray × Value)) (S : List Nat) (W : TR) (v : Value) (zs : List ZR) (L : List RW) (hG : GSt R PM KM S W) (hcn : cnt = (List.length (ino W) : Int) ∧ (ino W).length ≤ List.length PM) (hpl : PM.length ≤ 100000) (hZs : RS R 4 v zs.length (zs.flatMap ZR.cells)) (hZ : ZipR R zs L) (hln : L.length ≤ 1000) (hok : ∀ x ∈ L, RWok x) (hPP : ∀ x ∈ gws PM, WProper x) :
    TriG Tryz.prog 30 #[(vP (some ⟨zb, 0, none⟩)), v] R [cl zb 97 [(Value.map (some kb)), (Value.iface 183 (vP (some ⟨tb, 0, none⟩))), (Value.map (some wb)), (Value.map (some ib))], mp Value.string kb KM, setsP (List.map Prod.fst PM) S, cl tb 185 [(vP (some ⟨(rt nb W), 0, none⟩)), (vI .i64 cnt), (vP (some ⟨nb, 0, none⟩))], tr nb nb W, clf nb 182 [(Value.nilIface), (Value.nilIface), (Value.nilIface), (Value.nilIface), (vP none), (vP none), (vP none), (vI .i64 0)], mp pn wb (aggm PM)] (fun R' v__ post__ => ∃ (v' : Value) (es : List Value), v__ = v' ∧ post__ = [cl zb 97 [(Value.map (some kb)), (Value.iface 183 (vP (some ⟨tb, 0, none⟩))), (Value.map (some wb)), (Value.map (some ib))], mp Value.string kb KM, setsP (List.map Prod.fst PM) S, cl tb 185 [(vP (some ⟨(rt nb W), 0, none⟩)), (vI .i64 cnt), (vP (some ⟨nb, 0, none⟩))], tr nb nb W, clf nb 182 [(Value.nilIface), (Value.nilIface), (Value.nilIface), (Value.nilIface), (vP none), (vP none), (vP none), (vI .i64 0)], mp pn wb (aggm PM)] ∧ (RS R' 1 v' (List.length es) es) ∧ (EvL R' es (selR (gws PM) L))) := by
 have hl0_ := hZ.1
 refine TriG.into (n := 19) (al := [(vP (some ⟨zb, 0, none⟩)), v]) func30 rfl ntmps30 rfl rfl fun w F H => ?_
 refine cR fun _ hK1_ => ?_
 refine sv (v := (vS none 0 0)) (x_assign rfl) ?_
 refine wn (hK1_ _ _ ?_)
 refine cR fun _ hK2_ => ?_
 refine sv (v := v) (x_move rfl) ?_
 refine S_list (T_callG (al := [v]) (pre := []) rfl rfl cb56 (hRows R v zs L hZs (hZ) (by omega) (fun x hx => ⟨(hok x hx).k1, (hok x hx).v1⟩)) H ?_)
 rintro R4_ v5_ p15_ w12_ hs3_ ⟨v16_, v27_, ks8_, vs9_, rfl, rfl, he10_, he11_⟩ S14_ H13_
 have S16_ := Same.trans (Same.refl w) S14_
 refine sm (vT #[v16_, v27_]) ?_
 refine sv (v := v16_) (by kernel_rfl) ?_
 refine sv (v := v27_) (by kernel_rfl) ?_
 refine sv (v := v16_) (x_assign rfl) ?_
 refine sv (v := v27_) (x_assign rfl) ?_
 refine wn (hK2_ _ _ ?_)
 refine cR fun _ hK17_ => ?_
 refine sm (vP (some ⟨zb, 0, none⟩)) ?_
 refine sv (v := (vP (some ⟨zb, 0, none⟩))) (by kernel_rfl) ?_
 refine sv (v := (vP (some ⟨zb, 0, none⟩))) (by kernel_rfl) ?_
 refine sv (v := (Value.iface 120 (vP (some ⟨zb, 0, none⟩)))) (by kernel_rfl) ?_
 refine sv (v := v16_) (x_move rfl) ?_
 refine sv (v := v27_) (x_move rfl) ?_
 obtain ⟨R18_, hs19_, ⟨R20_, ha21_, hs22_⟩, H23_⟩ := Holds.gift H13_
 have hz_R_R18_ := Sub.trans' hs3_ hs19_
 have hr24_ : RS R18_ 1 v16_ (List.length ks8_) ks8_ := (sl_RS ha21_ (Sub.rfl' _)).mono hs22_
 obtain ⟨R25_, hs26_, ⟨R27_, ha28_, hs29_⟩, H30_⟩ := Holds.gift H23_
 have hz_R_R25_ := Sub.trans' hz_R_R18_ hs26_
 have hz_R4__R25_ := Sub.trans' hs19_ hs26_
 have hr31_ : RS R25_ 1 v27_ (List.length vs9_) vs9_ := (sl_RS ha28_ (Sub.rfl' _)).mono hs29_
 refine S_list (T_callG (al := [(vP none), (Value.iface 120 (vP (some ⟨zb, 0, none⟩))), v16_, v27_]) (pre := [cl zb 97 [(Value.map (some kb)), (Value.iface 183 (vP (some ⟨tb, 0, none⟩))), (Value.map (some wb)), (Value.map (some ib))], mp Value.string kb KM, setsP (List.map Prod.fst PM) S, cl tb 185 [(vP (some ⟨(rt nb W), 0, none⟩)), (vI .i64 cnt), (vP (some ⟨nb, 0, none⟩))], tr nb nb W, clf nb 182 [(Value.nilIface), (Value.nilIface), (Value.nilIface), (Value.nilIface), (vP none), (vP none), (vP none), (vI .i64 0)], mp pn wb (aggm PM)]) rfl rfl cb57 (evKvs R25_ zb kb tb nb wb ib cnt PM KM S W v16_ v27_ ks8_ vs9_ L ((hG.mono hz_R_R25_)) (hcn) (hpl) (RS.mono hr24_ hs26_) hr31_ ((he10_.mono hz_R4__R25_)) ((he11_.mono hz_R4__R25_)) (hln) (hok) (hPP)) H30_ ?_)
 rintro R33_ v34_ p41_ w38_ hs32_ ⟨_, es35_, rfl, rfl, he36_, he37_⟩ S40_ H39_
 have S42_ := Same.trans S16_ S40_
 have hz_R_R33_ := Sub.trans' hz_R_R25_ hs32_
 have hz_R4__R33_ := Sub.trans' hz_R4__R25_ hs32_
 have hz_R18__R33_ := Sub.trans' hs26_ hs32_
 refine sv (v := v34_) (x_assign rfl) ?_
 refine wn (hK17_ _ _ ?_)
 refine C_ret ?_
 refine R_any (v := v34_) (run_results1 rfl rfl) ?_
 exact ⟨R33_, _, _, rfl, hz_R_R33_, ⟨v34_, es35_, rfl, rfl, (he36_), (he37_)⟩, S42_, H39_⟩

set_option maxHeartbeats 1600000 in
theorem evKv (R : HP) (kb : Nat) (kv vv : Value) (ks vs : List Int) (cr md ver le : Int) (hK : RC R kb 0 [kv, (vI .i64 cr), (vI .i64 md), (vI .i64 ver), vv, (vI .i64 le)]) (hk : RS R 1 kv (List.length ks) (bytesV ks)) (hv : RS R 1 vv (List.length vs) (bytesV vs)) :
    Tri Tryz.prog 61 #[(vP (some ⟨kb, 0, none⟩))] R [] (fun v__ post__ => v__ = (vA #[(Value.string (strN ks)), (Value.string (strN vs)), (vI .i64 cr), (vI .i64 md), (vI .i64 ver), (vI .i64 le)]) ∧ post__ = []) := by
 refine Tri.into (n := 30) (al := [(vP (some ⟨kb, 0, none⟩))]) func61 rfl ntmps61 rfl rfl fun w F H => ?_
 refine cR fun _ hK1_ => ?_
 refine S_list (T_alloc z52 H ?_)
 intro b2_ w3_ S5_ H4_
 have S6_ := Same.trans (Same.refl w) S5_
 refine wn (hK1_ _ _ ?_)
 refine C_seq (fun _ hK7_ => ?_)
 refine A_start (S := fun w => Sub R (hp w)) (N := 28) foll rfl rfl ?_
 have H8_ := Holds.drew_ H4_
 have hq9_ := ((Holds.ro_at H8_ 1 rfl))
 refine A_tk 0 (v := (vP (some ⟨kb, 0, none⟩))) rfl (by kernel_rfl) (fun w hS => x_move rfl) hq9_ ?_
 refine A_tk 1 (v := (vP (some ⟨kb, 0, none⟩))) rfl (by kernel_rfl) (fun w hS => by kernel_rfl) hq9_ ?_
 refine A_tk 2 (v := (vP (some ⟨kb, 0, none⟩))) rfl (by kernel_rfl) (fun w hS => by kernel_rfl) hq9_ ?_
 refine A_tk 3 (v := kv) rfl (by kernel_rfl) (fun w hS => x_load1 rfl underlying101 rfl (RC.cell hK hS (j := 0) (u := kv) (rfl))) hq9_ ?_
 refine A_tk 4 (v := (Value.string (strN ks))) rfl (by kernel_rfl) (fun w hS => x_b2sRS rfl hk hS underlying101 underlying5 underlying9) hq9_ ?_
 refine A_tk 5 (v := (vP (some ⟨kb, 0, none⟩))) rfl (by kernel_rfl) (fun w hS => x_move rfl) hq9_ ?_
 refine A_tk 6 (v := (vP (some ⟨kb, 0, none⟩))) rfl (by kernel_rfl) (fun w hS => by kernel_rfl) hq9_ ?_
 refine A_tk 7 (v := (vP (some ⟨kb, 4, none⟩))) rfl (by kernel_rfl) (fun w hS => by kernel_rfl) hq9_ ?_
 refine A_tk 8 (v := vv) rfl (by kernel_rfl) (fun w hS => x_load1 rfl underlying101 rfl (RC.cell hK hS (j := 4) (u := vv) (rfl))) hq9_ ?_
 refine A_tk 9 (v := (Value.string (strN vs))) rfl (by kernel_rfl) (fun w hS => x_b2sRS rfl hv hS underlying101 underlying5 underlying9) hq9_ ?_
 refine A_tk 10 (v := (vP (some ⟨kb, 0, none⟩))) rfl (by kernel_rfl) (fun w hS => x_move rfl) hq9_ ?_
 refine A_tk 11 (v := (vP (some ⟨kb, 0, none⟩))) rfl (by kernel_rfl) (fun w hS => by kernel_rfl) hq9_ ?_
 refine A_tk 12 (v := (vP (some ⟨kb, 1, none⟩))) rfl (by kernel_rfl) (fun w hS => by kernel_rfl) hq9_ ?_
 refine A_tk 13 (v := (vI .i64 cr)) rfl (by kernel_rfl) (fun w hS => x_load1 rfl underlying2 rfl (RC.cell hK hS (j := 1) (u := (vI .i64 cr)) (rfl))) hq9_ ?_
 refine A_tk 14 (v := (vP (some ⟨kb, 0, none⟩))) rfl (by kernel_rfl) (fun w hS => x_move rfl) hq9_ ?_
 refine A_tk 15 (v := (vP (some ⟨kb, 0, none⟩))) rfl (by kernel_rfl) (fun w hS => by kernel_rfl) hq9_ ?_
 refine A_tk 16 (v := (vP (some ⟨kb, 2, none⟩))) rfl (by kernel_rfl) (fun w hS => by kernel_rfl) hq9_ ?_
 refine A_tk 17 (v := (vI .i64 md)) rfl (by kernel_rfl) (fun w hS => x_load1 rfl underlying2 rfl (RC.cell hK hS (j := 2) (u := (vI .i64 md)) (rfl))) hq9_ ?_
 refine A_tk 18 (v := (vP (some ⟨kb, 0, none⟩))) rfl (by kernel_rfl) (fun w hS => x_move rfl) hq9_ ?_
 refine A_tk 19 (v := (vP (some ⟨kb, 0, none⟩))) rfl (by kernel_rfl) (fun w hS => by kernel_rfl) hq9_ ?_
 refine A_tk 20 (v := (vP (some ⟨kb, 3, none⟩))) rfl (by kernel_rfl) (fun w hS => by kernel_rfl) hq9_ ?_
 refine A_tk 21 (v := (vI .i64 ver)) rfl (by kernel_rfl) (fun w hS => x_load1 rfl underlying2 rfl (RC.cell hK hS (j := 3) (u := (vI .i64 ver)) (rfl))) hq9_ ?_
 refine A_tk 22 (v := (vP (some ⟨kb, 0, none⟩))) rfl (by kernel_rfl) (fun w hS => x_move rfl) hq9_ ?_
 refine A_tk 23 (v := (vP (some ⟨kb, 0, none⟩))) rfl (by kernel_rfl) (fun w hS => by kernel_rfl) hq9_ ?_
 refine A_tk 24 (v := (vP (some ⟨kb, 5, none⟩))) rfl (by kernel_rfl) (fun w hS => by kernel_rfl) hq9_ ?_
 refine A_tk 25 (v := (vI .i64 le)) rfl (by kernel_rfl) (fun w hS => x_load1 rfl underlying2 rfl (RC.cell hK hS (j := 5) (u := (vI .i64 le)) (rfl))) hq9_ ?_
 refine A_tk 26 (v := (vA #[(Value.string (strN ks)), (Value.string (strN vs)), (vI .i64 cr), (vI .i64 md), (vI .i64 ver), (vI .i64 le)])) rfl (by kernel_rfl) (fun w hS => by kernel_rfl) hq9_ ?_
 refine A_ready (i := 27) (rs := []) (by kernel_rfl) ?_
 refine AllR.cons ?_ AllR.nil
 refine A_op0 (ls' := #[true, true, true, true, true, true, true, true, true, true, true, true, true, true, true, true, true, true, true, true, true, true, true, true, true, true, true, true]) rfl (by kernel_rfl) (T_storeN (vs := [(Value.string (strN ks)), (Value.string (strN vs)), (vI .i64 cr), (vI .i64 md), (vI .i64 ver), (vI .i64 le)]) rfl rfl z52 rfl (by simp [Value.oneCell']) H8_ 0 rfl (Nat.le_of_ble_eq_true (by rfl)) ?_)
 intro w10_ S12_ H11_
 have S13_ := Same.trans (Same.trans S6_ (Same.drew _)) S12_
 refine ⟨((Holds.ro_at H11_ 1 rfl)), ?_⟩
 refine A_done (by kernel_rfl) ?_
 refine (X_then (hK7_ _ _ ?_))
 refine C_ret ?_
 refine R_any (v := (vA #[(Value.string (strN ks)), (Value.string (strN vs)), (vI .i64 cr), (vI .i64 md), (vI .i64 ver), (vI .i64 le)])) (run_results1 rfl ⟨_, rfl, load_resN underlying52 rfl z52 rfl (vs := [(Value.string (strN ks)), (Value.string (strN vs)), (vI .i64 cr), (vI .i64 md), (vI .i64 ver), (vI .i64 le)]) (Holds.cl_cells H11_ 0 rfl 0 rfl)⟩) ?_
 have H14_ := Holds.pkF H11_ [1] 1
 exact ⟨_, _, rfl, ⟨rfl, rfl⟩, S13_, H14_⟩

set_option maxHeartbeats 1600000 in
theorem evEv (R : HP) (eb kb : Nat) (kv vv : Value) (ks vs : List Int) (ty cr md ver le : Int) (hE : RC R eb 0 [(vI .i32 ty), (vP (some ⟨kb, 0, none⟩)), (vP none)]) (hK : RC R kb 0 [kv, (vI .i64 cr), (vI .i64 md), (vI .i64 ver), vv, (vI .i64 le)]) (hk : RS R 1 kv (List.length ks) (bytesV ks)) (hv : RS R 1 vv (List.length vs) (bytesV vs)) :
    Tri Tryz.prog 32 #[(vP (some ⟨eb, 0, none⟩))] R [] (fun v__ post__ => v__ = (vA #[(vB (decide (ty = 1))), (Value.string (strN ks)), (Value.string (strN vs)), (vI .i64 cr), (vI .i64 md), (vI .i64 ver), (vI .i64 le)]) ∧ post__ = []) := by
 refine Tri.into (n := 14) (al := [(vP (some ⟨eb, 0, none⟩))]) func32 rfl ntmps32 rfl rfl fun w F H => ?_
 refine cR fun _ hK1_ => ?_
 refine S_list (T_alloc z54 H ?_)
 intro b2_ w3_ S5_ H4_
 have S6_ := Same.trans (Same.refl w) S5_
 refine wn (hK1_ _ _ ?_)
 refine C_seq (fun _ hK7_ => ?_)
 refine A_start (S := fun w => Sub R (hp w)) (N := 12) foll rfl rfl ?_
 have H8_ := Holds.drew_ H4_
 have hq9_ := ((Holds.ro_at H8_ 1 rfl))
 refine A_tk 0 (v := (vP (some ⟨eb, 0, none⟩))) rfl (by kernel_rfl) (fun w hS => x_move rfl) hq9_ ?_
 refine A_tk 1 (v := (vP (some ⟨eb, 0, none⟩))) rfl (by kernel_rfl) (fun w hS => by kernel_rfl) hq9_ ?_
 refine A_tk 2 (v := (vP (some ⟨eb, 0, none⟩))) rfl (by kernel_rfl) (fun w hS => by kernel_rfl) hq9_ ?_
 refine A_tk 3 (v := (vI .i32 ty)) rfl (by kernel_rfl) (fun w hS => x_load1 rfl underlying130 rfl (RC.cell hE hS (j := 0) (u := (vI .i32 ty)) (rfl))) hq9_ ?_
 refine A_tk 4 (v := (vB (decide (ty = 1)))) rfl (by kernel_rfl) (fun w hS => x_bin rfl rfl rfl) hq9_ ?_
 refine A_tk 5 (v := (vP (some ⟨eb, 0, none⟩))) rfl (by kernel_rfl) (fun w hS => x_move rfl) hq9_ ?_
 refine A_tk 6 (v := (vP (some ⟨eb, 0, none⟩))) rfl (by kernel_rfl) (fun w hS => by kernel_rfl) hq9_ ?_
 refine A_tk 7 (v := (vP (some ⟨eb, 1, none⟩))) rfl (by kernel_rfl) (fun w hS => by kernel_rfl) hq9_ ?_
 refine A_tk 8 (v := (vP (some ⟨kb, 0, none⟩))) rfl (by kernel_rfl) (fun w hS => x_load1 rfl underlying126 rfl (RC.cell hE hS (j := 1) (u := (vP (some ⟨kb, 0, none⟩))) (rfl))) hq9_ ?_
 refine A_ready (i := 9) (rs := []) (by kernel_rfl) ?_
 refine AllR.cons ?_ AllR.nil
 have H11_ := ((Holds.bring H8_ 1 rfl) :)
 refine A_op (ls' := #[true, true, true, true, true, true, true, true, true, true, false, false]) rfl (by kernel_rfl) (T_call (al := [(vP (some ⟨kb, 0, none⟩))]) (pre := []) rfl rfl cb61 (evKv R kb kv vv ks vs cr md ver le (hK) (hk) (hv)) H11_ ?_)
 rintro v10_ p15_ w12_ ⟨rfl, rfl⟩ S14_ H13_
 have S16_ := Same.trans (Same.trans S6_ (Same.drew _)) S14_
 refine ⟨((Holds.ro_at H13_ 0 rfl)), ?_⟩
 have hq17_ := ((Holds.ro_at H13_ 0 rfl))
 refine A_tk 10 (v := (vA #[(vB (decide (ty = 1))), (Value.string (strN ks)), (Value.string (strN vs)), (vI .i64 cr), (vI .i64 md), (vI .i64 ver), (vI .i64 le)])) rfl (by kernel_rfl) (fun w hS => by kernel_rfl) hq17_ ?_
 refine A_ready (i := 11) (rs := []) (by kernel_rfl) ?_
 refine AllR.cons ?_ AllR.nil
 refine A_op0 (ls' := #[true, true, true, true, true, true, true, true, true, true, true, true]) rfl (by kernel_rfl) (T_storeN (vs := [(vB (decide (ty = 1))), (Value.string (strN ks)), (Value.string (strN vs)), (vI .i64 cr), (vI .i64 md), (vI .i64 ver), (vI .i64 le)]) rfl rfl z54 rfl (by simp [Value.oneCell']) H13_ 1 rfl (Nat.le_of_ble_eq_true (by rfl)) ?_)
 intro w18_ S20_ H19_
 have S21_ := Same.trans S16_ S20_
 refine ⟨((Holds.ro_at H19_ 0 rfl)), ?_⟩
 refine A_done (by kernel_rfl) ?_
 refine (X_then (hK7_ _ _ ?_))
 refine C_ret ?_
 refine R_any (v := (vA #[(vB (decide (ty = 1))), (Value.string (strN ks)), (Value.string (strN vs)), (vI .i64 cr), (vI .i64 md), (vI .i64 ver), (vI .i64 le)])) (run_results1 rfl ⟨_, rfl, load_resN underlying54 rfl z54 rfl (vs := [(vB (decide (ty = 1))), (Value.string (strN ks)), (Value.string (strN vs)), (vI .i64 cr), (vI .i64 md), (vI .i64 ver), (vI .i64 le)]) (Holds.cl_cells H19_ 1 rfl 0 rfl)⟩) ?_
 have H22_ := Holds.pkF H19_ [0] 1
 exact ⟨_, _, rfl, ⟨rfl, rfl⟩, S21_, H22_⟩
end Go.Proofs.YtlnihndjepjagaaGreat
set_option linter.unusedVariables false
set_option linter.unusedSimpArgs false
namespace Go.Proofs.YtlnihndjepjagaaGreat
open Go Go.RowKit Gw Tryz
open Go.Value renaming int → vI, bool → vB, slice → vS, pointer → vP, agg → vA, tuple → vT

def addG (x : GW) : GO := ⟨1, x.iD, x.key, x.end_, x.hasEnd, x.minRev, ByteArray.empty, 0, 0, .slice none 0 0⟩
theorem gw_take {M : List GW} {PM : List (Nat × GW)} {k a : Nat} {x : GW} (h : gws PM = M.take k) (hx : M[k]? = some x) : gws (PM ++ [(a, x)]) = M.take (k + 1) := by
  rw [map2_snoc, h, take_snoc hx]
theorem gw_no {M : List GW} {PM : List (Nat × GW)} {k : Nat} {x : GW} (hn : (M.map (·.iD)).Nodup) (h : gws PM = M.take k) (hx : M[k]? = some x) : ∀ p ∈ PM, p.2.iD ≠ x.iD := by
  intro p hp e
  have h1 : p.2 ∈ M.take k := by rw [← h]; exact List.mem_map.2 ⟨p, hp, rfl⟩
  obtain ⟨i, hi, hi2⟩ := List.getElem_of_mem h1
  rw [List.length_take] at hi
  have hi3 : M[i]? = some p.2 := by
    rw [← hi2, List.getElem_take]
    exact List.getElem?_eq_getElem _
  have e1 : (M.map (·.iD))[i]? = some x.iD := by rw [List.getElem?_map, hi3, Option.map_some, e]
  have e2 : (M.map (·.iD))[k]? = some x.iD := by rw [List.getElem?_map, hx, Option.map_some]
  have hlt : k < (M.map (·.iD)).length := (List.getElem?_eq_some_iff.1 e2).1
  have := (List.getElem?_inj (show i < (M.map (·.iD)).length by omega) hn).1 (e1.trans e2.symm)
  omega

theorem gdNew (R : HP) (zb kb tb sb wb ib : Nat) (cnt : Int) (PM : List (Nat × GW)) (KM : List (ByteArray × Value)) (S : List Nat) (W : TR) (x : GW) (hG : GSt R PM KM S W) (hcn : cnt = (List.length (ino W) : Int) ∧ (ino W).length ≤ List.length PM) (hpl : PM.length ≤ 100000) (hnd : (ids PM).Nodup) (hP : WProper x) (h5 : PM.length < 500) (hz : x.end_.size ≤ 2147483647) (hid : ∀ p ∈ PM, p.2.iD ≠ x.iD) :
    TriG Tryz.prog 25 #[(vP (some ⟨zb, 0, none⟩)), (vA #[(vI .i64 1), (vI .i64 x.iD), (Value.string x.key), (Value.string x.end_), (vB x.hasEnd), (vI .i64 x.minRev), (Value.string ByteArray.empty), (vI .i64 0), (vI .i64 0), (vS none 0 0)])] R [cl zb 97 [(Value.map (some kb)), (Value.iface 183 (vP (some ⟨tb, 0, none⟩))), (Value.map (some wb)), (Value.map (some ib))], mp Value.string kb KM, setsP (List.map Prod.fst PM) S, cl tb 185 [(vP (some ⟨(rt sb W), 0, none⟩)), (vI .i64 cnt), (vP (some ⟨sb, 0, none⟩))], tr sb sb W, clf sb 182 [(Value.nilIface), (Value.nilIface), (Value.nilIface), (Value.nilIface), (vP none), (vP none), (vP none), (vI .i64 0)], mp pn wb (aggm PM), mp (vI .i64) ib (idm PM)] (fun R' v__ post__ => ∃ (a : Nat) (KM' : List (ByteArray × Value)) (S' : List Nat) (W' : TR) (cnt' : Int), v__ = (vA #[(vB true), (vI .i64 0), (vS none 0 0), (vS none 0 0)]) ∧ post__ = [cl zb 97 [(Value.map (some kb)), (Value.iface 183 (vP (some ⟨tb, 0, none⟩))), (Value.map (some wb)), (Value.map (some ib))], mp Value.string kb KM', setsP (List.map Prod.fst (PM ++ [(a, x)])) S', cl tb 185 [(vP (some ⟨(rt sb W'), 0, none⟩)), (vI .i64 cnt'), (vP (some ⟨sb, 0, none⟩))], tr sb sb W', clf sb 182 [(Value.nilIface), (Value.nilIface), (Value.nilIface), (Value.nilIface), (vP none), (vP none), (vP none), (vI .i64 0)], mp pn wb (aggm (PM ++ [(a, x)])), mp (vI .i64) ib (idm (PM ++ [(a, x)]))] ∧ (GSt R' (PM ++ [(a, x)]) KM' S' W') ∧ (cnt' = (List.length (ino W') : Int) ∧ (ino W').length ≤ List.length (PM ++ [(a, x)]))) := by
  refine TriG.mono (gdAdd R zb kb tb sb wb ib cnt PM KM S W (addG x) hG hcn hpl hnd rfl hP h5 hz) fun R' v l h => ?_
  rcases h with ⟨_, _, p, hp, e⟩ | ⟨a, KM', S', W', cnt', e1, e2, e3, e4, e5⟩
  · exact absurd e (hid p hp)
  · exact ⟨a, KM', S', W', cnt', e1, e2, e4, e5⟩

theorem gtk_ {α : Type} {l : List α} {k : Nat} {x : α} (h : l[k]? = some x) : l.take (k + 1) = l.take k ++ [x] := take_snoc h
theorem sel_le (M : List GW) (L : List RW) : (selR M L).length ≤ L.length := List.length_filter_le _ _

set_option maxHeartbeats 16000000 in
theorem evOfs (R : HP) (rv wv : Value) (L : List RW) (M : List GW) (hL : RS R 9 rv L.length (L.flatMap RW.cells)) (hM : RS R 5 wv (List.length M) (M.flatMap GW.cells)) (hll : L.length ≤ 200) (hml : M.length ≤ 60) (hok : ∀ x ∈ L, RWok x) (hw : ∀ x ∈ M, WProper x ∧ x.end_.size ≤ 2147483647) (hid : (M.map (·.iD)).Nodup) :
    TriG Tryz.prog 19 #[rv, wv] R [] (fun R' v__ post__ => ∃ (v' : Value), v__ = v' ∧ post__ = [] ∧ (RS R' 7 v' (List.length ((selR M L).map evOf)) (((selR M L).map evOf).flatMap EV.cells))) := by
 have hsl_ := sel_le M L
 refine TriG.into (n := 43) (al := [rv, wv]) func19 rfl ntmps19 rfl rfl fun w F H => ?_
 refine cR fun _ hK1_ => ?_
 refine sv (v := (vS none 0 0)) (x_assign rfl) ?_
 refine wn (hK1_ _ _ ?_)
 refine cR fun _ hK2_ => ?_
 refine S_list (T_callW (al := []) rfl rfl cb24 (Calls.into (n := 5) func24 rfl ntmps24 rfl rfl ?_))
 refine cR fun _ hK3_ => ?_
 refine sv (v := (vP none)) (x_assign rfl) ?_
 refine wn (hK3_ _ _ ?_)
 refine cR fun _ hK4_ => ?_
 refine S_list (T_callW (al := []) rfl rfl cb39 (Calls.into (n := 5) func39 rfl ntmps39 rfl rfl ?_))
 refine cR fun _ hK5_ => ?_
 refine S_list (T_alloc z93 H ?_)
 intro b6_ w7_ S9_ H8_
 have S10_ := Same.trans (Same.refl w) S9_
 refine wn (hK5_ _ _ ?_)
 refine cR fun _ hK11_ => ?_
 refine S_list (T_makeMap Value.string H8_ ?_)
 intro b12_ w13_ S15_ H14_
 have S16_ := Same.trans S10_ S15_
 refine S_list (T_callW (al := []) rfl rfl cb63 (Calls.into (n := 10) func63 rfl ntmps63 rfl rfl ?_))
 refine cR fun _ hK17_ => ?_
 refine sv (v := (Value.nilIface)) (x_assign rfl) ?_
 refine wn (hK17_ _ _ ?_)
 refine cR fun _ hK18_ => ?_
 refine sv (v := (vA #[(Value.nilIface), (Value.nilIface), (Value.nilIface)])) (by kernel_rfl) ?_
 refine sv (v := (vA #[(Value.nilIface), (Value.nilIface), (Value.nilIface), (Value.nilIface), (vP none), (vP none), (vP none), (vI .i64 0)])) (by kernel_rfl) ?_
 refine S_list (T_boxf (v := (vA #[(Value.nilIface), (Value.nilIface), (Value.nilIface), (Value.nilIface), (vP none), (vP none), (vP none), (vI .i64 0)])) rfl H14_ ?_)
 intro b19_ w20_ S22_ H21_
 have S23_ := Same.trans S16_ S22_
 refine sv (v := (vP (some ⟨b19_, 0, none⟩))) (x_assign rfl) ?_
 refine wn (hK18_ _ _ ?_)
 refine cR fun _ hK24_ => ?_
 refine sm (vP (some ⟨b19_, 0, none⟩)) ?_
 refine sm (vP (some ⟨b19_, 0, none⟩)) ?_
 refine sv (v := (vA #[(vP (some ⟨b19_, 0, none⟩)), (vI .i64 0), (vP (some ⟨b19_, 0, none⟩))])) (by kernel_rfl) ?_
 refine S_list (T_box (v := (vA #[(vP (some ⟨b19_, 0, none⟩)), (vI .i64 0), (vP (some ⟨b19_, 0, none⟩))])) rfl H21_ ?_)
 intro b25_ w26_ S28_ H27_
 have S29_ := Same.trans S23_ S28_
 refine sv (v := (Value.iface 183 (vP (some ⟨b25_, 0, none⟩)))) (by kernel_rfl) ?_
 refine sv (v := (Value.iface 183 (vP (some ⟨b25_, 0, none⟩)))) (x_assign rfl) ?_
 refine wn (hK24_ _ _ ?_)
 refine C_ret ?_
 refine R_any (v := (Value.iface 183 (vP (some ⟨b25_, 0, none⟩)))) (run_results1 rfl rfl) ⟨_, rfl, ?_⟩
 refine S_list (T_makeMap pn H27_ ?_)
 intro b30_ w31_ S33_ H32_
 have S34_ := Same.trans S29_ S33_
 refine sv (v := (vA #[(Value.map (some b12_)), (Value.iface 183 (vP (some ⟨b25_, 0, none⟩))), (Value.map (some b30_))])) (by kernel_rfl) ?_
 refine S_list0 (T_storeN (vs := [(Value.map (some b12_)), (Value.iface 183 (vP (some ⟨b25_, 0, none⟩))), (Value.map (some b30_))]) rfl rfl z93 rfl (by simp [Value.oneCell']) H32_ 4 rfl (Nat.le_of_ble_eq_true (by rfl)) ?_)
 intro w35_ S37_ H36_
 have S38_ := Same.trans S34_ S37_
 refine wn (hK11_ _ _ ?_)
 refine C_ret ?_
 refine R_any (v := (vA #[(Value.map (some b12_)), (Value.iface 183 (vP (some ⟨b25_, 0, none⟩))), (Value.map (some b30_))])) (run_results1 rfl ⟨_, rfl, load_resN underlying93 rfl z93 rfl (vs := [(Value.map (some b12_)), (Value.iface 183 (vP (some ⟨b25_, 0, none⟩))), (Value.map (some b30_))]) (Holds.cl_cells H36_ 4 rfl 0 rfl)⟩) ⟨_, rfl, ?_⟩
 refine S_list (T_makeMap (vI .i64) H36_ ?_)
 intro b39_ w40_ S42_ H41_
 have S43_ := Same.trans S38_ S42_
 refine sv (v := (vA #[(Value.map (some b12_)), (Value.iface 183 (vP (some ⟨b25_, 0, none⟩))), (Value.map (some b30_)), (Value.map (some b39_))])) (by kernel_rfl) ?_
 refine S_list (T_box (v := (vA #[(Value.map (some b12_)), (Value.iface 183 (vP (some ⟨b25_, 0, none⟩))), (Value.map (some b30_)), (Value.map (some b39_))])) rfl H41_ ?_)
 intro b44_ w45_ S47_ H46_
 have S48_ := Same.trans S43_ S47_
 refine sv (v := (vP (some ⟨b44_, 0, none⟩))) (x_assign rfl) ?_
 refine wn (hK4_ _ _ ?_)
 refine C_ret ?_
 refine R_any (v := (vP (some ⟨b44_, 0, none⟩))) (run_results1 rfl rfl) ⟨_, rfl, ?_⟩
 refine sv (v := (vP (some ⟨b44_, 0, none⟩))) (x_assign rfl) ?_
 refine wn (hK2_ _ _ ?_)
 refine C_seq (fun _ hK49_ => ?_)
 refine cR fun _ hK50_ => ?_
 refine sv (v := (vI .i64 0)) (x_assign rfl) ?_
 refine wn (hK50_ _ _ ?_)
 refine C_block ?_
 have H51_ : Holds w45_ (tr b19_ b19_ (Tr.lf : TR) :: cl b44_ 97 [(Value.map (some b12_)), (Value.iface 183 (vP (some ⟨b25_, 0, none⟩))), (Value.map (some b30_)), (Value.map (some b39_))] :: mp (vI .i64) b39_ [] :: mp pn b30_ [] :: cl b25_ 185 [(vP (some ⟨b19_, 0, none⟩)), (vI .i64 0), (vP (some ⟨b19_, 0, none⟩))] :: clf b19_ 182 [(Value.nilIface), (Value.nilIface), (Value.nilIface), (Value.nilIface), (vP none), (vP none), (vP none), (vI .i64 0)] :: mp Value.string b12_ [] :: cl b6_ 93 [(Value.map (some b12_)), (Value.iface 183 (vP (some ⟨b25_, 0, none⟩))), (Value.map (some b30_))] :: ro R :: F) := Holds.lf_tr H46_
 have H52_ : Holds w45_ (setsP (List.map Prod.fst ([] : List (Nat × GW))) ([] : List Nat) :: tr b19_ b19_ (Tr.lf : TR) :: cl b44_ 97 [(Value.map (some b12_)), (Value.iface 183 (vP (some ⟨b25_, 0, none⟩))), (Value.map (some b30_)), (Value.map (some b39_))] :: mp (vI .i64) b39_ [] :: mp pn b30_ [] :: cl b25_ 185 [(vP (some ⟨b19_, 0, none⟩)), (vI .i64 0), (vP (some ⟨b19_, 0, none⟩))] :: clf b19_ 182 [(Value.nilIface), (Value.nilIface), (Value.nilIface), (Value.nilIface), (vP none), (vP none), (vP none), (vI .i64 0)] :: mp Value.string b12_ [] :: cl b6_ 93 [(Value.map (some b12_)), (Value.iface 183 (vP (some ⟨b25_, 0, none⟩))), (Value.map (some b30_))] :: ro R :: F) := Holds.sets_nil H51_
 have H53_ := H52_
 have H54_ := Holds.recl H53_ 5 rfl ((lcons ((by first | rfl | omega | (simp; done) | (simp; omega)) : (vP (some ⟨b19_, 0, none⟩)) = (vP (some ⟨(rt b19_ (Tr.lf : TR)), 0, none⟩))) rfl) : [(vP (some ⟨b19_, 0, none⟩)), (vI .i64 0), (vP (some ⟨b19_, 0, none⟩))] = [(vP (some ⟨(rt b19_ (Tr.lf : TR)), 0, none⟩)), (vI .i64 0), (vP (some ⟨b19_, 0, none⟩))])
 have eH55_ : mp Value.string b12_ [] = mp Value.string b12_ ([] : List (ByteArray × Value)) := by first | rfl | (congr 1 <;> first | rfl | omega | (simp; done) | (simp; omega))
 have H55_ : Holds w45_ (setsP (List.map Prod.fst ([] : List (Nat × GW))) ([] : List Nat) :: tr b19_ b19_ (Tr.lf : TR) :: cl b44_ 97 [(Value.map (some b12_)), (Value.iface 183 (vP (some ⟨b25_, 0, none⟩))), (Value.map (some b30_)), (Value.map (some b39_))] :: mp (vI .i64) b39_ (idm ([] : List (Nat × GW))) :: mp pn b30_ (aggm ([] : List (Nat × GW))) :: cl b25_ 185 [(vP (some ⟨(rt b19_ (Tr.lf : TR)), 0, none⟩)), (vI .i64 0), (vP (some ⟨b19_, 0, none⟩))] :: clf b19_ 182 [(Value.nilIface), (Value.nilIface), (Value.nilIface), (Value.nilIface), (vP none), (vP none), (vP none), (vI .i64 0)] :: mp Value.string b12_ ([] : List (ByteArray × Value)) :: cl b6_ 93 [(Value.map (some b12_)), (Value.iface 183 (vP (some ⟨b25_, 0, none⟩))), (Value.map (some b30_))] :: ro R :: F) := cast1 (P := fun c__ => Holds w45_ (setsP (List.map Prod.fst ([] : List (Nat × GW))) ([] : List Nat) :: tr b19_ b19_ (Tr.lf : TR) :: cl b44_ 97 [(Value.map (some b12_)), (Value.iface 183 (vP (some ⟨b25_, 0, none⟩))), (Value.map (some b30_)), (Value.map (some b39_))] :: mp (vI .i64) b39_ (idm ([] : List (Nat × GW))) :: mp pn b30_ (aggm ([] : List (Nat × GW))) :: cl b25_ 185 [(vP (some ⟨(rt b19_ (Tr.lf : TR)), 0, none⟩)), (vI .i64 0), (vP (some ⟨b19_, 0, none⟩))] :: clf b19_ 182 [(Value.nilIface), (Value.nilIface), (Value.nilIface), (Value.nilIface), (vP none), (vP none), (vP none), (vI .i64 0)] :: c__ :: cl b6_ 93 [(Value.map (some b12_)), (Value.iface 183 (vP (some ⟨b25_, 0, none⟩))), (Value.map (some b30_))] :: ro R :: F)) eH55_ H54_
 have H56_ := Holds.pkF H55_ [0, 0, 0, 0, 0, 0, 0, 0, 1] 1
 refine C_loop (γ := HP × Nat × (List (Nat × GW)) × (List (ByteArray × Value)) × (List Nat) × TR × Int) (fun x__ a__ w1__ => match x__ with | ⟨R1, k, PM, KM, S, W, cnt⟩ => ∃ h : Env, a__ = mkA 43 (upd (upd (upd (upd (upd h 0 rv) 1 wv) 4 (vS none 0 0)) 5 (vP (some ⟨b44_, 0, none⟩))) 6 (vI .i64 (k : Int))) [] ∧ Holds w1__ (setsP (List.map Prod.fst PM) S :: tr b19_ b19_ W :: cl b44_ 97 [(Value.map (some b12_)), (Value.iface 183 (vP (some ⟨b25_, 0, none⟩))), (Value.map (some b30_)), (Value.map (some b39_))] :: mp (vI .i64) b39_ (idm PM) :: mp pn b30_ (aggm PM) :: cl b25_ 185 [(vP (some ⟨(rt b19_ W), 0, none⟩)), (vI .i64 cnt), (vP (some ⟨b19_, 0, none⟩))] :: clf b19_ 182 [(Value.nilIface), (Value.nilIface), (Value.nilIface), (Value.nilIface), (vP none), (vP none), (vP none), (vI .i64 0)] :: mp Value.string b12_ KM :: ro R1 :: F) ∧ Same w w1__ ∧ (Sub R R1) ∧ (k ≤ M.length) ∧ (GSt R1 PM KM S W) ∧ (cnt = (List.length (ino W) : Int) ∧ (ino W).length ≤ List.length PM) ∧ ((ids PM).Nodup) ∧ (gws PM = M.take k) ∧ (PM.length ≤ k)) (fun x__ => match x__ with | ⟨R1, k, PM, KM, S, W, cnt⟩ => M.length - k) (⟨R, 0, ([] : List (Nat × GW)), ([] : List (ByteArray × Value)), ([] : List Nat), (Tr.lf : TR), 0⟩) ⟨_, congrArg (fun e => mkA 43 e []) (ch (ch (ch (ch (ch rfl rfl) rfl) rfl) rfl) (congrArg (vI .i64) ((by first | rfl | omega | (simp; done) | (simp; omega)) : 0 = (0 : Int)))), H56_, S48_, (Sub.rfl' _), (by first | assumption | omega | exact rfl), (GSt.nil), (⟨rfl, Nat.le_refl _⟩), (List.nodup_nil), (rfl), (Nat.le_refl _)⟩ ?_
 rintro ⟨R1, k, PM, KM, S, W, cnt⟩ _ w57_ ⟨h, rfl, H58_, S59_, hsR1, hkk, hG, hcn, hnd, hMM, hpl⟩
 refine C_seq (fun _ hK60_ => ?_)
 refine cR fun _ hK61_ => ?_
 refine sm (vI .i64 (k : Int)) ?_
 refine sv (v := wv) (x_move rfl) ?_
 refine sv (v := (vI .i64 ((List.length M) : Int))) (x_lenRS rfl (RS.mono hM hsR1) underlying22) ?_
 refine sv (v := (vB (decide ((k : Int) < ((List.length M) : Int))))) (x_bin rfl rfl rfl) ?_
 refine wn (hK61_ _ _ ?_)
 refine C_cond (b := decide ((k : Int) < ((List.length M) : Int))) rfl (fun c62_t => ?_) (fun c62_f => ?_)
 ·have c62_tp : (k : Int) < ((List.length M) : Int) := of_decide_eq_true c62_t
  refine C_skip (X_then (hK60_ _ _ ?_))
  refine C_seq (fun _ hK63_ => ?_)
  refine C_block ?_
  refine C_reg ?_
  refine sm (vP (some ⟨b44_, 0, none⟩)) ?_
  refine sv (v := wv) (x_move rfl) ?_
  refine sm (vI .i64 (k : Int)) ?_
  obtain ⟨x64_, hx65_, hm66_⟩ := elem_at M k (by omega)
  have hp67_ := hw x64_ hm66_
  refine sv (v := (vP (some ⟨(sb wv), so wv + (k * 5 + 0), none⟩))) (x_idxRS (v := wv) rfl (RS.mono hM hsR1) rfl underlying22 z26 (by omega) (by omega) (by omega : _ = k) rfl) ?_
  refine sv (v := (vA #[(vI .i64 x64_.iD), (Value.string x64_.key), (Value.string x64_.end_), (vB x64_.hasEnd), (vI .i64 x64_.minRev)])) (x_loadN (vs := [(vI .i64 x64_.iD), (Value.string x64_.key), (Value.string x64_.end_), (vB x64_.hasEnd), (vI .i64 x64_.minRev)]) rfl underlying26 rfl z26 rfl (RC.cells (RS.rc (RS.mono hM hsR1)) (Holds.ro_at H58_ 8 rfl) (k * 5 + 0) (fm_cells GW.len hx65_ (i := 0) rfl))) ?_
  refine sv (v := (vA #[(vI .i64 1), (vI .i64 x64_.iD), (Value.string x64_.key), (Value.string x64_.end_), (vB x64_.hasEnd), (vI .i64 x64_.minRev), (Value.string ByteArray.empty), (vI .i64 0), (vI .i64 0), (vS none 0 0)])) (by kernel_rfl) ?_
  have H78_ := ((Holds.bring (Holds.bring (Holds.bring (Holds.bring (Holds.bring (Holds.bring (Holds.bring (Holds.bring (Holds.bring H58_ 3 rfl) 4 rfl) 6 rfl) 4 rfl) 6 rfl) 5 rfl) 7 rfl) 7 rfl) 8 rfl) :)
  refine S_list (T_callG (al := [(vP (some ⟨b44_, 0, none⟩)), (vA #[(vI .i64 1), (vI .i64 x64_.iD), (Value.string x64_.key), (Value.string x64_.end_), (vB x64_.hasEnd), (vI .i64 x64_.minRev), (Value.string ByteArray.empty), (vI .i64 0), (vI .i64 0), (vS none 0 0)])]) (pre := [cl b44_ 97 [(Value.map (some b12_)), (Value.iface 183 (vP (some ⟨b25_, 0, none⟩))), (Value.map (some b30_)), (Value.map (some b39_))], mp Value.string b12_ KM, setsP (List.map Prod.fst PM) S, cl b25_ 185 [(vP (some ⟨(rt b19_ W), 0, none⟩)), (vI .i64 cnt), (vP (some ⟨b19_, 0, none⟩))], tr b19_ b19_ W, clf b19_ 182 [(Value.nilIface), (Value.nilIface), (Value.nilIface), (Value.nilIface), (vP none), (vP none), (vP none), (vI .i64 0)], mp pn b30_ (aggm PM), mp (vI .i64) b39_ (idm PM)]) rfl rfl cb25 (gdNew R1 b44_ b12_ b25_ b19_ b30_ b39_ cnt PM KM S W x64_ (hG) (hcn) (by omega) (hnd) ((hw x64_ hm66_).1) (by omega) ((hw x64_ hm66_).2) (gw_no hid hMM hx65_)) H78_ ?_)
  rintro R69_ v70_ p82_ w79_ hs68_ ⟨a71_, KM72_, S73_, W74_, cnt75_, rfl, rfl, he76_, he77_⟩ S81_ H80_
  have S83_ := Same.trans S59_ S81_
  have hz_R_R69_ := Sub.trans' hsR1 hs68_
  refine wpList_nil (X_blkN (X_then (hK63_ _ _ ?_)))
  refine C_reg ?_
  refine sm (vI .i64 (k : Int)) ?_
  refine sv (v := (vI .i64 ((k : Int) + 1))) (x_bin rfl rfl (ib_add (IntWalk.i64_in _ (by omega)))) ?_
  refine sv (v := (vI .i64 ((k : Int) + 1))) (x_assign rfl) ?_
  refine wpList_nil (X_then ?_)
  have H84_ := Holds.pkF H80_ [3, 4, 1, 5, 4, 2, 2, 1, 0] 0
  exact ⟨⟨R69_, k + 1, (PM ++ [(a71_, x64_)]), KM72_, S73_, W74_, cnt75_⟩, ⟨_, congrArg (fun e => mkA 43 e []) (ch (ch (ch (ch (ch rfl rfl) rfl) rfl) rfl) (congrArg (vI .i64) ((by first | rfl | omega | (simp; done) | (simp; omega)) : (k : Int) + 1 = ((k + 1 : Nat) : Int)))), H84_, S83_, (hz_R_R69_), (by first | assumption | omega | exact rfl), (he76_), (he77_), (ids_snoc hnd (gw_no hid hMM hx65_)), (gw_take hMM hx65_), (by rw [List.length_append]; simp; omega)⟩, by first | omega | (dsimp only; omega) | (simp; omega)⟩
 ·have c62_fp : ¬ ((k : Int) < ((List.length M) : Int)) := of_decide_eq_false c62_f
  refine C_exit (X_thenX (X_thenX (X_blkHit ?_)))
  refine (X_then (hK49_ _ _ ?_))
  refine cR fun _ hK85_ => ?_
  refine sv (v := (vS none 0 0)) (x_assign rfl) ?_
  refine wn (hK85_ _ _ ?_)
  refine cR fun _ hK86_ => ?_
  refine sm (vP (some ⟨b44_, 0, none⟩)) ?_
  refine sv (v := rv) (x_move rfl) ?_
  have H92_ := ((Holds.bring H58_ 8 rfl) :)
  refine S_list (T_callG (al := [rv]) (pre := []) rfl rfl cb31 (hRowsIn R1 rv L (RS.mono hL hsR1) (by first | assumption | omega) (fun x hx => ⟨(hok x hx).k1, (hok x hx).v1⟩)) H92_ ?_)
  rintro R88_ v89_ p96_ w93_ hs87_ ⟨_, zs90_, rfl, rfl, he91_⟩ S95_ H94_
  have S97_ := Same.trans S59_ S95_
  have hz_R_R88_ := Sub.trans' hsR1 hs87_
  have hMe_ : gws PM = M := by rw [hMM]; exact List.take_of_length_le (by omega)
  obtain ⟨R98_, hs99_, ⟨R100_, ha101_, hs102_⟩, H103_⟩ := Holds.gift H94_
  have hz_R_R98_ := Sub.trans' hz_R_R88_ hs99_
  have hz_R1_R98_ := Sub.trans' hs87_ hs99_
  have hr104_ : RS R98_ 4 v89_ (List.length zs90_) (zs90_.flatMap ZR.cells) := (sl_RS ha101_ (Sub.rfl' _)).mono hs102_
  have H111_ := ((Holds.bring (Holds.bring (Holds.bring (Holds.bring (Holds.bring (Holds.bring (Holds.bring (Holds.bring H103_ 5 rfl) 7 rfl) 4 rfl) 7 rfl) 5 rfl) 8 rfl) 7 rfl) 7 rfl) :)
  refine S_list (T_callG (al := [(vP (some ⟨b44_, 0, none⟩)), v89_]) (pre := [cl b44_ 97 [(Value.map (some b12_)), (Value.iface 183 (vP (some ⟨b25_, 0, none⟩))), (Value.map (some b30_)), (Value.map (some b39_))], mp Value.string b12_ KM, setsP (List.map Prod.fst PM) S, cl b25_ 185 [(vP (some ⟨(rt b19_ W), 0, none⟩)), (vI .i64 cnt), (vP (some ⟨b19_, 0, none⟩))], tr b19_ b19_ W, clf b19_ 182 [(Value.nilIface), (Value.nilIface), (Value.nilIface), (Value.nilIface), (vP none), (vP none), (vP none), (vI .i64 0)], mp pn b30_ (aggm PM)]) rfl rfl cb30 (evZz R98_ b44_ b12_ b25_ b19_ b30_ b39_ cnt PM KM S W v89_ zs90_ L ((hG.mono hz_R1_R98_)) (hcn) (by omega) (RS.set_ hr104_ rfl (by first | rfl | omega | (simp; done) | (simp; omega))) ((he91_.mono hs99_)) (by omega) (hok) (by rw [hMe_]; exact fun x hx => (hw x hx).1)) H111_ ?_)
  rintro R106_ v107_ p115_ w112_ hs105_ ⟨_, es108_, rfl, rfl, he109_, he110_⟩ S114_ H113_
  have S116_ := Same.trans S97_ S114_
  have hz_R_R106_ := Sub.trans' hz_R_R98_ hs105_
  have hz_R1_R106_ := Sub.trans' hz_R1_R98_ hs105_
  have hz_R88__R106_ := Sub.trans' hs99_ hs105_
  have hesl_ := (he110_).1
  rw [hMe_] at hesl_
  refine sv (v := v107_) (x_assign rfl) ?_
  refine wn (hK86_ _ _ ?_)
  refine C_seq (fun _ hK117_ => ?_)
  refine cR fun _ hK118_ => ?_
  refine sv (v := (vI .i64 0)) (x_assign rfl) ?_
  refine wn (hK118_ _ _ ?_)
  refine C_block ?_
  have H119_ : Holds w112_ (sl 54 7 (vS none 0 0) (List.length ([] : List EV)) (([] : List EV).flatMap EV.cells) :: ro R106_ :: cl b44_ 97 [(Value.map (some b12_)), (Value.iface 183 (vP (some ⟨b25_, 0, none⟩))), (Value.map (some b30_)), (Value.map (some b39_))] :: mp Value.string b12_ KM :: setsP (List.map Prod.fst PM) S :: cl b25_ 185 [(vP (some ⟨(rt b19_ W), 0, none⟩)), (vI .i64 cnt), (vP (some ⟨b19_, 0, none⟩))] :: tr b19_ b19_ W :: clf b19_ 182 [(Value.nilIface), (Value.nilIface), (Value.nilIface), (Value.nilIface), (vP none), (vP none), (vP none), (vI .i64 0)] :: mp pn b30_ (aggm PM) :: mp (vI .i64) b39_ (idm PM) :: F) := Holds.add_nil H113_ 54 7
  have hEL_ : EvL R106_ es108_ (selR M L) := by have h__ := he110_; rw [hMe_] at h__; exact h__
  have H120_ := Holds.resl H119_ 0 rfl ((by first | rfl | (simp [GW.cells, GO.cells, GA.cells, RW.cells, ZR.cells, RV.cells, MR.cells, EV.cells]; done)) : ([] : List EV).flatMap EV.cells = (List.map evOf (List.take 0 (selR M L))).flatMap EV.cells) ((by first | rfl | omega | (simp; done) | (simp; omega)) : (List.length ([] : List EV)) = (List.length (List.map evOf (List.take 0 (selR M L)))))
  have H121_ := Holds.pkF H120_ [0, 0, 1, 1, 2, 3, 3] 3
  refine C_loop (γ := Nat × Value) (fun x__ a__ w1__ => match x__ with | ⟨j, cv⟩ => ∃ h : Env, a__ = mkA 43 (upd (upd (upd (upd h 4 (vS none 0 0)) 7 cv) 8 v107_) 9 (vI .i64 (j : Int))) [] ∧ Holds w1__ (sl 54 7 cv (List.length (List.map evOf (List.take j (selR M L)))) ((List.map evOf (List.take j (selR M L))).flatMap EV.cells) :: ro R106_ :: mp Value.string b12_ KM :: setsP (List.map Prod.fst PM) S :: tr b19_ b19_ W :: mp pn b30_ (aggm PM) :: mp (vI .i64) b39_ (idm PM) :: F) ∧ Same w w1__ ∧ (j ≤ (selR M L).length)) (fun x__ => match x__ with | ⟨j, cv⟩ => (selR M L).length - j) (⟨0, (vS none 0 0)⟩) ⟨_, congrArg (fun e => mkA 43 e []) (ch (ch (ch (ch rfl rfl) (rfl : (vS none 0 0) = ((vS none 0 0)))) rfl) (congrArg (vI .i64) ((by first | rfl | omega | (simp; done) | (simp; omega)) : 0 = (0 : Int)))), H121_, S116_, (by first | assumption | omega | exact rfl)⟩ ?_
  rintro ⟨j, cv⟩ _ w122_ ⟨h, rfl, H123_, S124_, hjj⟩
  refine C_seq (fun _ hK125_ => ?_)
  refine cR fun _ hK126_ => ?_
  refine sm (vI .i64 (j : Int)) ?_
  refine sv (v := v107_) (x_move rfl) ?_
  refine sv (v := (vI .i64 ((List.length es108_) : Int))) (x_lenRS rfl he109_ underlying73) ?_
  refine sv (v := (vB (decide ((j : Int) < ((List.length es108_) : Int))))) (x_bin rfl rfl rfl) ?_
  refine wn (hK126_ _ _ ?_)
  refine C_cond (b := decide ((j : Int) < ((List.length es108_) : Int))) rfl (fun c127_t => ?_) (fun c127_f => ?_)
  ·have c127_tp : (j : Int) < ((List.length es108_) : Int) := of_decide_eq_true c127_t
   refine C_skip (X_then (hK125_ _ _ ?_))
   refine C_seq (fun _ hK128_ => ?_)
   refine C_block ?_
   refine C_reg ?_
   refine sv (v := cv) (x_move rfl) ?_
   refine sv (v := v107_) (x_move rfl) ?_
   refine sm (vI .i64 (j : Int)) ?_
   obtain ⟨x129_, v130_, hx131_, hv132_, he133_⟩ := EvL.at_ hEL_ (by omega : j < es108_.length)
   obtain ⟨eb134_, kb135_, kv136_, vv137_, hq138_, h1139_, h2140_, h3141_, h4142_⟩ := he133_
   rw [hq138_] at hv132_
   refine sv (v := (vP (some ⟨(sb v107_), so v107_ + j, none⟩))) (x_idxRS (v := v107_) rfl he109_ rfl underlying73 z78 (by omega) (by omega) (by omega : _ = j) (by rw [Nat.mul_one])) ?_
   refine sv (v := (vP (some ⟨eb134_, 0, none⟩))) (x_load1 rfl underlying78 rfl (RC.cell (RS.rc he109_) (Holds.ro_at H123_ 1 rfl) (j := j) (u := (vP (some ⟨eb134_, 0, none⟩))) (hv132_))) ?_
   have H144_ := ((Holds.bring H123_ 1 rfl) :)
   refine S_list (T_call (al := [(vP (some ⟨eb134_, 0, none⟩))]) (pre := []) rfl rfl cb32 (evEv R106_ eb134_ kb135_ kv136_ vv137_ x129_.ks x129_.vs (if x129_.gone then 1 else 0 : Int) x129_.kV_Create (if x129_.gone then x129_.rev_Main else x129_.kV_Mod) x129_.kV_Version x129_.kV_Lease (h1139_) (h2140_) (h3141_) (h4142_)) H144_ ?_)
   rintro v143_ p148_ w145_ ⟨rfl, rfl⟩ S147_ H146_
   have S149_ := Same.trans S124_ S147_
   refine S_list (T_new (obj := .cells #[(vB (decide ((if x129_.gone then 1 else 0 : Int) = 1))), (Value.string (strN x129_.ks)), (Value.string (strN x129_.vs)), (vI .i64 x129_.kV_Create), (vI .i64 (if x129_.gone then x129_.rev_Main else x129_.kV_Mod)), (vI .i64 x129_.kV_Version), (vI .i64 x129_.kV_Lease)] 54) (f := fun b__ => .slice (some ⟨b__, 0, none⟩) 1 1) (A := fun b__ => cl b__ 54 [(vB (decide ((if x129_.gone then 1 else 0 : Int) = 1))), (Value.string (strN x129_.ks)), (Value.string (strN x129_.vs)), (vI .i64 x129_.kV_Create), (vI .i64 (if x129_.gone then x129_.rev_Main else x129_.kV_Mod)), (vI .i64 x129_.kV_Version), (vI .i64 x129_.kV_Lease)]) (by kernel_rfl) (fun l h => h.alloc _ _) H146_ ?_)
   intro b150_ w151_ S153_ H152_
   have S154_ := Same.trans S149_ S153_
   refine S_list (T_append rfl rfl underlying27 z54 rfl (by decide) H152_ 2 rfl (Holds.cl_src H152_ 0 rfl underlying27 (by simp [Value.oneCell']) rfl) (by simp only [List.length_map, List.length_take]; omega) ?_)
   intro v155_ w156_ S158_ H157_
   have S159_ := Same.trans S154_ S158_
   refine sv (v := v155_) (x_assign rfl) ?_
   refine wpList_nil (X_blkN (X_then (hK128_ _ _ ?_)))
   refine C_reg ?_
   refine sm (vI .i64 (j : Int)) ?_
   refine sv (v := (vI .i64 ((j : Int) + 1))) (x_bin rfl rfl (ib_add (IntWalk.i64_in _ (by omega)))) ?_
   refine sv (v := (vI .i64 ((j : Int) + 1))) (x_assign rfl) ?_
   refine wpList_nil (X_then ?_)
   have H160_ := Holds.resl H157_ 2 rfl (by rw [gtk_ hx131_, List.map_append, List.flatMap_append]; simp [EV.cells, evOf] : ((List.map evOf (List.take j (selR M L))).flatMap EV.cells) ++ [(vB (decide ((if x129_.gone then 1 else 0 : Int) = 1))), (Value.string (strN x129_.ks)), (Value.string (strN x129_.vs)), (vI .i64 x129_.kV_Create), (vI .i64 (if x129_.gone then x129_.rev_Main else x129_.kV_Mod)), (vI .i64 x129_.kV_Version), (vI .i64 x129_.kV_Lease)] = (List.map evOf (List.take (j + 1) (selR M L))).flatMap EV.cells) (by rw [gtk_ hx131_]; simp : (List.length (List.map evOf (List.take j (selR M L)))) + 1 = (List.length (List.map evOf (List.take (j + 1) (selR M L)))))
   have H161_ := Holds.pkF H160_ [2, 1, 1, 1, 1, 1, 1] 1
   exact ⟨⟨j + 1, v155_⟩, ⟨_, congrArg (fun e => mkA 43 e []) (ch (ch (ch (ch rfl rfl) rfl) rfl) (congrArg (vI .i64) ((by first | rfl | omega | (simp; done) | (simp; omega)) : (j : Int) + 1 = ((j + 1 : Nat) : Int)))), H161_, S159_, (by first | assumption | omega | exact rfl)⟩, by first | omega | (dsimp only; omega) | (simp; omega)⟩
  ·have c127_fp : ¬ ((j : Int) < ((List.length es108_) : Int)) := of_decide_eq_false c127_f
   refine C_exit (X_thenX (X_thenX (X_blkHit ?_)))
   refine (X_then (hK117_ _ _ ?_))
   refine cR fun _ hK162_ => ?_
   refine sv (v := cv) (x_move rfl) ?_
   refine sv (v := cv) (x_assign rfl) ?_
   refine wn (hK162_ _ _ ?_)
   refine C_ret ?_
   refine R_any (v := cv) (run_results1 rfl rfl) ?_
   have H163_ := Holds.resl H123_ 0 rfl (by rw [List.take_of_length_le (by omega)] : (List.map evOf (List.take j (selR M L))).flatMap EV.cells = ((selR M L).map evOf).flatMap EV.cells) (by rw [List.take_of_length_le (by omega)] : (List.length (List.map evOf (List.take j (selR M L)))) = (List.length ((selR M L).map evOf)))
   have H164_ := ((Holds.bring H163_ 1 rfl) :)
   obtain ⟨R165_, hs166_, ⟨R167_, ha168_, hs169_⟩, H170_⟩ := Holds.gift H164_
   have hz_R_R165_ := Sub.trans' hz_R_R106_ hs166_
   have hz_R1_R165_ := Sub.trans' hz_R1_R106_ hs166_
   have hz_R88__R165_ := Sub.trans' hz_R88__R106_ hs166_
   have hz_R98__R165_ := Sub.trans' hs105_ hs166_
   have hr171_ : RS R165_ 7 cv (List.length ((selR M L).map evOf)) (((selR M L).map evOf).flatMap EV.cells) := (sl_RS ha168_ (Sub.rfl' _)).mono hs169_
   have H172_ := Holds.pkF H170_ [0] 5
   exact ⟨R165_, _, _, rfl, hz_R_R165_, ⟨cv, rfl, rfl, (hr171_)⟩, S124_, H172_⟩
end Go.Proofs.YtlnihndjepjagaaGreat
set_option linter.unusedVariables false
set_option linter.unusedSimpArgs false
namespace Go.Proofs.YtlnihndjepjagaaGreat
open Go Go.RowKit Gw Tryz
open Go.Value renaming int → vI, bool → vB, slice → vS, pointer → vP, agg → vA, tuple → vT

/-! ### Watchers by rising numbers -/
set_option maxHeartbeats 1600000 in
theorem crSees (R : HP) (x : GW) (k : ByteArray) :
    Tri Tryz.prog 33 #[(vA #[(vI .i64 x.iD), (Value.string x.key), (Value.string x.end_), (vB x.hasEnd), (vI .i64 x.minRev)]), (Value.string k)] R [] (fun v__ post__ => v__ = (vB (seesB x k)) ∧ post__ = []) := by
 refine Tri.into (n := 13) (al := [(vA #[(vI .i64 x.iD), (Value.string x.key), (Value.string x.end_), (vB x.hasEnd), (vI .i64 x.minRev)]), (Value.string k)]) func33 rfl ntmps33 rfl rfl fun w F H => ?_
 refine cR fun _ hK1_ => ?_
 refine S_list (T_box (v := (vA #[(vI .i64 x.iD), (Value.string x.key), (Value.string x.end_), (vB x.hasEnd), (vI .i64 x.minRev)])) rfl H ?_)
 intro b2_ w3_ S5_ H4_
 have S6_ := Same.trans (Same.refl w) S5_
 refine sv (v := (vB false)) (x_assign rfl) ?_
 refine wn (hK1_ _ _ ?_)
 refine cR fun _ hK7_ => ?_
 refine sm (Value.string k) ?_
 refine sv (v := (vP (some ⟨b2_, 1, none⟩))) (by kernel_rfl) ?_
 refine sv (v := (Value.string x.key)) (x_load1 rfl underlying9 rfl ((Holds.rd H4_ 0 rfl) 1 (Value.string x.key) rfl)) ?_
 refine sv (v := (vP (some ⟨b2_, 2, none⟩))) (by kernel_rfl) ?_
 refine sv (v := (Value.string x.end_)) (x_load1 rfl underlying9 rfl ((Holds.rd H4_ 0 rfl) 2 (Value.string x.end_) rfl)) ?_
 refine sv (v := (vP (some ⟨b2_, 3, none⟩))) (by kernel_rfl) ?_
 refine sv (v := (vB x.hasEnd)) (x_load1 rfl underlying4 rfl ((Holds.rd H4_ 0 rfl) 3 (vB x.hasEnd) rfl)) ?_
 refine S_list (T_callW (al := [(Value.string k), (Value.string x.key), (Value.string x.end_), (vB x.hasEnd)]) rfl rfl cb62 (Calls.into (n := 29) func62 rfl ntmps62 rfl rfl ?_))
 refine cR fun _ hK8_ => ?_
 refine sv (v := (vB false)) (x_assign rfl) ?_
 refine wn (hK8_ _ _ ?_)
 refine C_seq (fun _ hK9_ => ?_)
 refine C_block ?_
 refine cR fun _ hK10_ => ?_
 refine sm (vB x.hasEnd) ?_
 refine sv (v := (vB (!x.hasEnd))) (x_not rfl) ?_
 refine sv (v := (vB (!x.hasEnd))) (x_assign rfl) ?_
 refine wn (hK10_ _ _ ?_)
 refine C_cond (b := !x.hasEnd) rfl (fun c11_t => ?_) (fun c11_f => ?_)
 ·skip
  refine cR fun _ hK12_ => ?_
  refine sm (Value.string k) ?_
  refine sm (Value.string x.key) ?_
  refine sv (v := (vB (k.toList == x.key.toList))) (x_str rfl rfl rfl (by decide)) ?_
  refine sv (v := (vB (k.toList == x.key.toList))) (x_assign rfl) ?_
  refine wn (hK12_ _ _ ?_)
  refine C_ret (X_blkR (X_thenR ?_))
  refine R_any (v := (vB (k.toList == x.key.toList))) (run_results1 rfl rfl) ⟨_, rfl, ?_⟩
  refine sv (v := (vB (k.toList == x.key.toList))) (x_assign rfl) ?_
  refine wn (hK7_ _ _ ?_)
  refine C_ret ?_
  refine R_any (v := (vB (k.toList == x.key.toList))) (run_results1 rfl rfl) ?_
  have H13_ := Holds.pkF H4_ [1] 1
  exact ⟨_, _, rfl, ⟨(congrArg vB ((by have h1__ : x.hasEnd = false := (by simpa using c11_t); unfold seesB; rw [if_neg (by rw [h1__]; decide)]) : (k.toList == x.key.toList) = (seesB x k))), rfl⟩, S6_, H13_⟩
 ·skip
  refine cR fun _ hK14_ => ?_
  refine sm (Value.string x.end_) ?_
  refine sv (v := (vB (x.end_.toList == (ByteArray.mk #[]).toList))) (x_str rfl rfl rfl (by decide)) ?_
  refine sv (v := (vB (x.end_.toList == (ByteArray.mk #[]).toList))) (x_assign rfl) ?_
  refine wn (hK14_ _ _ ?_)
  refine C_cond (b := x.end_.toList == (ByteArray.mk #[]).toList) rfl (fun c15_t => ?_) (fun c15_f => ?_)
  ·skip
   refine cR fun _ hK16_ => ?_
   refine sm (Value.string k) ?_
   refine sm (Value.string x.key) ?_
   refine sv (v := (vB (!Op.bytesLess k.toList x.key.toList))) (x_str rfl rfl rfl (by decide)) ?_
   refine sv (v := (vB (!Op.bytesLess k.toList x.key.toList))) (x_assign rfl) ?_
   refine wn (hK16_ _ _ ?_)
   refine C_ret (X_blkR (X_thenR ?_))
   refine R_any (v := (vB (!Op.bytesLess k.toList x.key.toList))) (run_results1 rfl rfl) ⟨_, rfl, ?_⟩
   refine sv (v := (vB (!Op.bytesLess k.toList x.key.toList))) (x_assign rfl) ?_
   refine wn (hK7_ _ _ ?_)
   refine C_ret ?_
   refine R_any (v := (vB (!Op.bytesLess k.toList x.key.toList))) (run_results1 rfl rfl) ?_
   have H17_ := Holds.pkF H4_ [1] 1
   exact ⟨_, _, rfl, ⟨(congrArg vB ((by have h1__ : x.hasEnd = true := (by simpa using c11_f); unfold seesB; rw [if_pos h1__]; rw [if_pos c15_t]) : (!Op.bytesLess k.toList x.key.toList) = (seesB x k))), rfl⟩, S6_, H17_⟩
  ·skip
   refine C_skip (X_blkN (X_then (hK9_ _ _ ?_)))
   refine cR fun _ hK18_ => ?_
   refine sm (Value.string k) ?_
   refine sm (Value.string x.key) ?_
   refine sv (v := (vB (!Op.bytesLess k.toList x.key.toList))) (x_str rfl rfl rfl (by decide)) ?_
   refine sm (vB (!Op.bytesLess k.toList x.key.toList)) ?_
   rcases Bool.eq_false_or_eq_true (!Op.bytesLess k.toList x.key.toList) with c19_t | c19_f
   ·skip
    refine S_yes (j := 3) (dj := 24) (b := true) rfl rfl (congrArg vB c19_t) (T_val (v := (Value.string k)) (x_move rfl) ?_)
    refine S_yes (j := 3) (dj := 24) (b := true) rfl rfl (congrArg vB c19_t) (T_val (v := (Value.string x.end_)) (x_move rfl) ?_)
    refine S_yes (j := 3) (dj := 24) (b := true) rfl rfl (congrArg vB c19_t) (T_val (v := (vB (Op.bytesLess k.toList x.end_.toList))) (x_str rfl rfl rfl (by decide)) ?_)
    refine S_list (T_pickT (v := (vB (Op.bytesLess k.toList x.end_.toList))) (congrArg vB c19_t) rfl ?_)
    refine sv (v := (vB (Op.bytesLess k.toList x.end_.toList))) (x_assign rfl) ?_
    refine wn (hK18_ _ _ ?_)
    refine C_ret ?_
    refine R_any (v := (vB (Op.bytesLess k.toList x.end_.toList))) (run_results1 rfl rfl) ⟨_, rfl, ?_⟩
    refine sv (v := (vB (Op.bytesLess k.toList x.end_.toList))) (x_assign rfl) ?_
    refine wn (hK7_ _ _ ?_)
    refine C_ret ?_
    refine R_any (v := (vB (Op.bytesLess k.toList x.end_.toList))) (run_results1 rfl rfl) ?_
    have H20_ := Holds.pkF H4_ [1] 1
    exact ⟨_, _, rfl, ⟨(congrArg vB ((by have h1__ : x.hasEnd = true := (by simpa using c11_f); unfold seesB; rw [if_pos h1__]; rw [if_neg (by rw [c15_f]; decide)]; rw [c19_t]; rfl) : (Op.bytesLess k.toList x.end_.toList) = (seesB x k))), rfl⟩, S6_, H20_⟩
   ·skip
    refine S_no (j := 3) (dj := 24) (b := false) rfl rfl (congrArg vB c19_f) (by decide) ?_
    refine S_no (j := 3) (dj := 24) (b := false) rfl rfl (congrArg vB c19_f) (by decide) ?_
    refine S_no (j := 3) (dj := 24) (b := false) rfl rfl (congrArg vB c19_f) (by decide) ?_
    refine S_list (T_pickF (v := (vB false)) (congrArg vB c19_f) rfl ?_)
    refine sv (v := (vB false)) (x_assign rfl) ?_
    refine wn (hK18_ _ _ ?_)
    refine C_ret ?_
    refine R_any (v := (vB false)) (run_results1 rfl rfl) ⟨_, rfl, ?_⟩
    refine sv (v := (vB false)) (x_assign rfl) ?_
    refine wn (hK7_ _ _ ?_)
    refine C_ret ?_
    refine R_any (v := (vB false)) (run_results1 rfl rfl) ?_
    have H21_ := Holds.pkF H4_ [1] 1
    exact ⟨_, _, rfl, ⟨(congrArg vB ((by have h1__ : x.hasEnd = true := (by simpa using c11_f); unfold seesB; rw [if_pos h1__]; rw [if_neg (by rw [c15_f]; decide)]; rw [c19_f]; rfl) : false = (seesB x k))), rfl⟩, S6_, H21_⟩

end Go.Proofs.YtlnihndjepjagaaGreat
set_option linter.unusedVariables false
set_option linter.unusedSimpArgs false
namespace Go.Proofs.YtlnihndjepjagaaGreat
open Go Go.RowKit Gw Tryz
open Go.Value renaming int → vI, bool → vB, slice → vS, pointer → vP, agg → vA, tuple → vT

end Go.Proofs.YtlnihndjepjagaaGreat
set_option linter.unusedVariables false
set_option linter.unusedSimpArgs false
namespace Go.Proofs.YtlnihndjepjagaaGreat
open Go Go.RowKit Gw Tryz
open Go.Value renaming int → vI, bool → vB, slice → vS, pointer → vP, agg → vA, tuple → vT

/-! ### What the guards let in -/
def GSz (x : GW) : Prop := x.key.size ≤ 2147483647 ∧ x.end_.size ≤ 2147483647
theorem gsz_snoc {L : List GW} {k : Nat} {x : GW} (h : ∀ y ∈ L.take k, GSz y) (hx : L[k]? = some x) (hq : GSz x) : ∀ y ∈ L.take (k + 1), GSz y := by
  rw [gtake hx]
  intro y hy
  rcases List.mem_append.1 hy with hy | hy
  · exact h y hy
  · rw [List.mem_singleton.1 hy]; exact hq
theorem ne_size {s : ByteArray} (h : (!(s.toList == (ByteArray.mk #[]).toList)) = true) : s.size ≠ 0 := fun e => by rw [empty_iff.2 e] at h; cases h
theorem nf_size {s : ByteArray} (h : (s.toList == (ByteArray.mk #[]).toList) = false) : s.size ≠ 0 := fun e => by rw [empty_iff.2 e] at h; cases h
/-! ### A group that is alive -/
set_option maxHeartbeats 1600000 in
theorem lwProper (R : HP) (x : GW) :
    Tri Tryz.prog 17 #[(vA #[(vI .i64 x.iD), (Value.string x.key), (Value.string x.end_), (vB x.hasEnd), (vI .i64 x.minRev)])] R [] (fun v__ post__ => ∃ (b : Bool), v__ = (vB b) ∧ post__ = [] ∧ (b = true → WProper x)) := by
 refine Tri.into (n := 23) (al := [(vA #[(vI .i64 x.iD), (Value.string x.key), (Value.string x.end_), (vB x.hasEnd), (vI .i64 x.minRev)])]) func17 rfl ntmps17 rfl rfl fun w F H => ?_
 refine cR fun _ hK1_ => ?_
 refine S_list (T_box (v := (vA #[(vI .i64 x.iD), (Value.string x.key), (Value.string x.end_), (vB x.hasEnd), (vI .i64 x.minRev)])) rfl H ?_)
 intro b2_ w3_ S5_ H4_
 have S6_ := Same.trans (Same.refl w) S5_
 refine sv (v := (vB false)) (x_assign rfl) ?_
 refine wn (hK1_ _ _ ?_)
 refine cR fun _ hK7_ => ?_
 refine sv (v := (vP (some ⟨b2_, 3, none⟩))) (by kernel_rfl) ?_
 refine sv (v := (vB x.hasEnd)) (x_load1 rfl underlying4 rfl ((Holds.rd H4_ 0 rfl) 3 (vB x.hasEnd) rfl)) ?_
 refine sv (v := (vB (!x.hasEnd))) (x_not rfl) ?_
 refine sm (vB (!x.hasEnd)) ?_
 rcases Bool.eq_false_or_eq_true (!x.hasEnd) with c8_t | c8_f
 ·skip
  refine S_no (j := 3) (dj := 6) (b := true) rfl rfl (congrArg vB c8_t) (by decide) ?_
  refine S_no (j := 3) (dj := 6) (b := true) rfl rfl (congrArg vB c8_t) (by decide) ?_
  refine S_no (j := 3) (dj := 6) (b := true) rfl rfl (congrArg vB c8_t) (by decide) ?_
  refine S_no (j := 3) (dj := 6) (b := true) rfl rfl (congrArg vB c8_t) (by decide) ?_
  refine S_noU (j := 7) (dj := 10) rfl rfl rfl ?_
  refine S_noU (j := 7) (dj := 10) rfl rfl rfl ?_
  refine S_noU (j := 7) (dj := 10) rfl rfl rfl ?_
  refine S_noU (j := 7) (dj := 10) rfl rfl rfl ?_
  refine S_noU (j := 11) (dj := 14) rfl rfl rfl ?_
  refine S_noU (j := 11) (dj := 14) rfl rfl rfl ?_
  refine S_noU (j := 11) (dj := 14) rfl rfl rfl ?_
  refine S_noU (j := 11) (dj := 14) rfl rfl rfl ?_
  refine S_noU (j := 11) (dj := 14) rfl rfl rfl ?_
  refine S_noU (j := 7) (dj := 10) rfl rfl rfl ?_
  refine S_no (j := 3) (dj := 6) (b := true) rfl rfl (congrArg vB c8_t) (by decide) ?_
  refine S_list (T_pickT (v := (vB true)) (congrArg vB c8_t) rfl ?_)
  refine sv (v := (vB true)) (x_assign rfl) ?_
  refine wn (hK7_ _ _ ?_)
  refine C_ret ?_
  refine R_any (v := (vB true)) (run_results1 rfl rfl) ?_
  have H9_ := Holds.pkF H4_ [1] 1
  exact ⟨_, _, rfl, ⟨true, rfl, rfl, (fun _ hx => by rw [show x.hasEnd = false by simpa using c8_t] at hx; cases hx)⟩, S6_, H9_⟩
 ·skip
  refine S_yes (j := 3) (dj := 6) (b := false) rfl rfl (congrArg vB c8_f) (T_val (v := (vP (some ⟨b2_, 1, none⟩))) (by kernel_rfl) ?_)
  refine S_yes (j := 3) (dj := 6) (b := false) rfl rfl (congrArg vB c8_f) (T_val (v := (Value.string x.key)) (x_load1 rfl underlying9 rfl ((Holds.rd H4_ 0 rfl) 1 (Value.string x.key) rfl)) ?_)
  refine S_yes (j := 3) (dj := 6) (b := false) rfl rfl (congrArg vB c8_f) (T_val (v := (vB (!(x.key.toList == (ByteArray.mk #[]).toList)))) (x_str rfl rfl rfl (by decide)) ?_)
  refine S_yes (j := 3) (dj := 6) (b := false) rfl rfl (congrArg vB c8_f) (T_val (v := (vB (!(x.key.toList == (ByteArray.mk #[]).toList)))) (x_move rfl) ?_)
  rcases Bool.eq_false_or_eq_true (!(x.key.toList == (ByteArray.mk #[]).toList)) with c10_t | c10_f
  ·skip
   refine S_yes (j := 7) (dj := 10) (b := true) rfl rfl (congrArg vB c10_t) (T_val (v := (vP (some ⟨b2_, 2, none⟩))) (by kernel_rfl) ?_)
   refine S_yes (j := 7) (dj := 10) (b := true) rfl rfl (congrArg vB c10_t) (T_val (v := (Value.string x.end_)) (x_load1 rfl underlying9 rfl ((Holds.rd H4_ 0 rfl) 2 (Value.string x.end_) rfl)) ?_)
   refine S_yes (j := 7) (dj := 10) (b := true) rfl rfl (congrArg vB c10_t) (T_val (v := (vB (x.end_.toList == (ByteArray.mk #[]).toList))) (x_str rfl rfl rfl (by decide)) ?_)
   refine S_yes (j := 7) (dj := 10) (b := true) rfl rfl (congrArg vB c10_t) (T_val (v := (vB (x.end_.toList == (ByteArray.mk #[]).toList))) (x_move rfl) ?_)
   rcases Bool.eq_false_or_eq_true (x.end_.toList == (ByteArray.mk #[]).toList) with c11_t | c11_f
   ·skip
    refine S_no (j := 11) (dj := 14) (b := true) rfl rfl (congrArg vB c11_t) (by decide) ?_
    refine S_no (j := 11) (dj := 14) (b := true) rfl rfl (congrArg vB c11_t) (by decide) ?_
    refine S_no (j := 11) (dj := 14) (b := true) rfl rfl (congrArg vB c11_t) (by decide) ?_
    refine S_no (j := 11) (dj := 14) (b := true) rfl rfl (congrArg vB c11_t) (by decide) ?_
    refine S_no (j := 11) (dj := 14) (b := true) rfl rfl (congrArg vB c11_t) (by decide) ?_
    refine S_yes (j := 7) (dj := 10) (b := true) rfl rfl (congrArg vB c10_t) (T_pickT (v := (vB true)) (congrArg vB c11_t) rfl ?_)
    refine S_yes (j := 3) (dj := 6) (b := false) rfl rfl (congrArg vB c8_f) (T_pickT (v := (vB true)) (congrArg vB c10_t) rfl ?_)
    refine S_list (T_pickF (v := (vB true)) (congrArg vB c8_f) rfl ?_)
    refine sv (v := (vB true)) (x_assign rfl) ?_
    refine wn (hK7_ _ _ ?_)
    refine C_ret ?_
    refine R_any (v := (vB true)) (run_results1 rfl rfl) ?_
    have H12_ := Holds.pkF H4_ [1] 1
    exact ⟨_, _, rfl, ⟨true, rfl, rfl, (fun _ _ => ⟨ne_size c10_t, .inl (empty_iff.1 c11_t)⟩)⟩, S6_, H12_⟩
   ·skip
    refine S_yes (j := 11) (dj := 14) (b := false) rfl rfl (congrArg vB c11_f) (T_val (v := (vP (some ⟨b2_, 1, none⟩))) (by kernel_rfl) ?_)
    refine S_yes (j := 11) (dj := 14) (b := false) rfl rfl (congrArg vB c11_f) (T_val (v := (Value.string x.key)) (x_load1 rfl underlying9 rfl ((Holds.rd H4_ 0 rfl) 1 (Value.string x.key) rfl)) ?_)
    refine S_yes (j := 11) (dj := 14) (b := false) rfl rfl (congrArg vB c11_f) (T_val (v := (vP (some ⟨b2_, 2, none⟩))) (by kernel_rfl) ?_)
    refine S_yes (j := 11) (dj := 14) (b := false) rfl rfl (congrArg vB c11_f) (T_val (v := (Value.string x.end_)) (x_load1 rfl underlying9 rfl ((Holds.rd H4_ 0 rfl) 2 (Value.string x.end_) rfl)) ?_)
    refine S_yes (j := 11) (dj := 14) (b := false) rfl rfl (congrArg vB c11_f) (T_val (v := (vB (Op.bytesLess x.key.toList x.end_.toList))) (x_str rfl rfl rfl (by decide)) ?_)
    refine S_yes (j := 7) (dj := 10) (b := true) rfl rfl (congrArg vB c10_t) (T_pickF (v := (vB (Op.bytesLess x.key.toList x.end_.toList))) (congrArg vB c11_f) rfl ?_)
    refine S_yes (j := 3) (dj := 6) (b := false) rfl rfl (congrArg vB c8_f) (T_pickT (v := (vB (Op.bytesLess x.key.toList x.end_.toList))) (congrArg vB c10_t) rfl ?_)
    refine S_list (T_pickF (v := (vB (Op.bytesLess x.key.toList x.end_.toList))) (congrArg vB c8_f) rfl ?_)
    refine sv (v := (vB (Op.bytesLess x.key.toList x.end_.toList))) (x_assign rfl) ?_
    refine wn (hK7_ _ _ ?_)
    refine C_ret ?_
    refine R_any (v := (vB (Op.bytesLess x.key.toList x.end_.toList))) (run_results1 rfl rfl) ?_
    have H13_ := Holds.pkF H4_ [1] 1
    exact ⟨_, _, rfl, ⟨Op.bytesLess x.key.toList x.end_.toList, rfl, rfl, (fun h _ => ⟨ne_size c10_t, .inr h⟩)⟩, S6_, H13_⟩
  ·skip
   refine S_no (j := 7) (dj := 10) (b := false) rfl rfl (congrArg vB c10_f) (by decide) ?_
   refine S_no (j := 7) (dj := 10) (b := false) rfl rfl (congrArg vB c10_f) (by decide) ?_
   refine S_no (j := 7) (dj := 10) (b := false) rfl rfl (congrArg vB c10_f) (by decide) ?_
   refine S_no (j := 7) (dj := 10) (b := false) rfl rfl (congrArg vB c10_f) (by decide) ?_
   refine S_noU (j := 11) (dj := 14) rfl rfl rfl ?_
   refine S_noU (j := 11) (dj := 14) rfl rfl rfl ?_
   refine S_noU (j := 11) (dj := 14) rfl rfl rfl ?_
   refine S_noU (j := 11) (dj := 14) rfl rfl rfl ?_
   refine S_noU (j := 11) (dj := 14) rfl rfl rfl ?_
   refine S_no (j := 7) (dj := 10) (b := false) rfl rfl (congrArg vB c10_f) (by decide) ?_
   refine S_yes (j := 3) (dj := 6) (b := false) rfl rfl (congrArg vB c8_f) (T_pickF (v := (vB false)) (congrArg vB c10_f) rfl ?_)
   refine S_list (T_pickF (v := (vB false)) (congrArg vB c8_f) rfl ?_)
   refine sv (v := (vB false)) (x_assign rfl) ?_
   refine wn (hK7_ _ _ ?_)
   refine C_ret ?_
   refine R_any (v := (vB false)) (run_results1 rfl rfl) ?_
   have H14_ := Holds.pkF H4_ [1] 1
   exact ⟨_, _, rfl, ⟨false, rfl, rfl, (fun h => by cases h)⟩, S6_, H14_⟩

set_option maxHeartbeats 1600000 in
theorem lwF17 (R : HP) (x : GW) :
    Tri Tryz.prog 21 #[(vA #[(vI .i64 x.iD), (Value.string x.key), (Value.string x.end_), (vB x.hasEnd), (vI .i64 x.minRev)])] R [] (fun v__ post__ => ∃ (b : Bool), v__ = (vB b) ∧ post__ = [] ∧ (b = true → GSz x)) := by
 refine Tri.into (n := 11) (al := [(vA #[(vI .i64 x.iD), (Value.string x.key), (Value.string x.end_), (vB x.hasEnd), (vI .i64 x.minRev)])]) func21 rfl ntmps21 rfl rfl fun w F H => ?_
 refine cR fun _ hK1_ => ?_
 refine S_list (T_box (v := (vA #[(vI .i64 x.iD), (Value.string x.key), (Value.string x.end_), (vB x.hasEnd), (vI .i64 x.minRev)])) rfl H ?_)
 intro b2_ w3_ S5_ H4_
 have S6_ := Same.trans (Same.refl w) S5_
 refine sv (v := (vB false)) (x_assign rfl) ?_
 refine wn (hK1_ _ _ ?_)
 refine C_seq (fun _ hK7_ => ?_)
 refine cR fun _ hK8_ => ?_
 refine sv (v := (vP (some ⟨b2_, 1, none⟩))) (by kernel_rfl) ?_
 refine sv (v := (Value.string x.key)) (x_load1 rfl underlying9 rfl ((Holds.rd H4_ 0 rfl) 1 (Value.string x.key) rfl)) ?_
 refine sv (v := (vI .i64 (x.key.size : Int))) (x_lenT rfl underlying9) ?_
 refine sv (v := (vB (decide (2147483647 < (x.key.size : Int))))) (x_bin rfl rfl rfl) ?_
 refine wn (hK8_ _ _ ?_)
 refine C_cond (b := decide (2147483647 < (x.key.size : Int))) rfl (fun c9_t => ?_) (fun c9_f => ?_)
 ·have c9_tp : 2147483647 < (x.key.size : Int) := of_decide_eq_true c9_t
  refine cR fun _ hK10_ => ?_
  refine sv (v := (vB false)) (x_assign rfl) ?_
  refine wn (hK10_ _ _ ?_)
  refine C_ret (X_thenR ?_)
  refine R_any (v := (vB false)) (run_results1 rfl rfl) ?_
  have H11_ := Holds.pkF H4_ [1] 1
  exact ⟨_, _, rfl, ⟨false, rfl, rfl, (fun h => by cases h)⟩, S6_, H11_⟩
 ·have c9_fp : ¬ (2147483647 < (x.key.size : Int)) := of_decide_eq_false c9_f
  refine C_skip (X_then (hK7_ _ _ ?_))
  refine C_seq (fun _ hK12_ => ?_)
  refine cR fun _ hK13_ => ?_
  refine sv (v := (vP (some ⟨b2_, 2, none⟩))) (by kernel_rfl) ?_
  refine sv (v := (Value.string x.end_)) (x_load1 rfl underlying9 rfl ((Holds.rd H4_ 0 rfl) 2 (Value.string x.end_) rfl)) ?_
  refine sv (v := (vI .i64 (x.end_.size : Int))) (x_lenT rfl underlying9) ?_
  refine sv (v := (vB (decide (2147483647 < (x.end_.size : Int))))) (x_bin rfl rfl rfl) ?_
  refine wn (hK13_ _ _ ?_)
  refine C_cond (b := decide (2147483647 < (x.end_.size : Int))) rfl (fun c14_t => ?_) (fun c14_f => ?_)
  ·have c14_tp : 2147483647 < (x.end_.size : Int) := of_decide_eq_true c14_t
   refine cR fun _ hK15_ => ?_
   refine sv (v := (vB false)) (x_assign rfl) ?_
   refine wn (hK15_ _ _ ?_)
   refine C_ret (X_thenR ?_)
   refine R_any (v := (vB false)) (run_results1 rfl rfl) ?_
   have H16_ := Holds.pkF H4_ [1] 1
   exact ⟨_, _, rfl, ⟨false, rfl, rfl, (fun h => by cases h)⟩, S6_, H16_⟩
  ·have c14_fp : ¬ (2147483647 < (x.end_.size : Int)) := of_decide_eq_false c14_f
   refine C_skip (X_then (hK12_ _ _ ?_))
   refine cR fun _ hK17_ => ?_
   refine sv (v := (vB true)) (x_assign rfl) ?_
   refine wn (hK17_ _ _ ?_)
   refine C_ret ?_
   refine R_any (v := (vB true)) (run_results1 rfl rfl) ?_
   have H18_ := Holds.pkF H4_ [1] 1
   exact ⟨_, _, rfl, ⟨true, rfl, rfl, (fun _ => ⟨by omega, by omega⟩)⟩, S6_, H18_⟩

set_option maxHeartbeats 1600000 in
theorem lwF20 (R : HP) (v : Value) (l : List GW) (hv : RS R 5 v (List.length l) (l.flatMap GW.cells)) :
    Tri Tryz.prog 6 #[v] R [] (fun v__ post__ => ∃ (b : Bool), v__ = (vB b) ∧ post__ = [] ∧ (b = true → l.length ≤ 2147483647 ∧ ∀ s ∈ l, GSz s)) := by
 refine Tri.into (n := 18) (al := [v]) func6 rfl ntmps6 rfl rfl fun w F H => ?_
 refine cR fun _ hK1_ => ?_
 refine sv (v := (vB false)) (x_assign rfl) ?_
 refine wn (hK1_ _ _ ?_)
 refine C_seq (fun _ hK2_ => ?_)
 refine cR fun _ hK3_ => ?_
 refine sv (v := v) (x_move rfl) ?_
 refine sv (v := (vI .i64 ((List.length l) : Int))) (x_lenRS rfl hv underlying22) ?_
 refine sv (v := (vB (decide (2147483647 < ((List.length l) : Int))))) (x_bin rfl rfl rfl) ?_
 refine wn (hK3_ _ _ ?_)
 refine C_cond (b := decide (2147483647 < ((List.length l) : Int))) rfl (fun c4_t => ?_) (fun c4_f => ?_)
 ·have c4_tp : 2147483647 < ((List.length l) : Int) := of_decide_eq_true c4_t
  refine cR fun _ hK5_ => ?_
  refine sv (v := (vB false)) (x_assign rfl) ?_
  refine wn (hK5_ _ _ ?_)
  refine C_ret (X_thenR ?_)
  refine R_any (v := (vB false)) (run_results1 rfl rfl) ?_
  exact ⟨_, _, rfl, ⟨false, rfl, rfl, (fun h => by cases h)⟩, (Same.refl w), H⟩
 ·have c4_fp : ¬ (2147483647 < ((List.length l) : Int)) := of_decide_eq_false c4_f
  refine C_skip (X_then (hK2_ _ _ ?_))
  refine C_seq (fun _ hK6_ => ?_)
  refine cR fun _ hK7_ => ?_
  refine sv (v := v) (x_move rfl) ?_
  refine sv (v := (vI .i64 ((List.length l) : Int))) (x_lenRS rfl hv underlying22) ?_
  refine sm (vI .i64 0) ?_
  refine wn (hK7_ _ _ ?_)
  refine C_block ?_
  refine C_loop (γ := Nat × Bool) (fun x__ a__ w1__ => match x__ with | ⟨k, t2_v⟩ => ∃ h : Env, a__ = mkA 18 (upd (upd (upd (upd h 2 (vB t2_v)) 8 v) 9 (vI .i64 ((List.length l) : Int))) 10 (vI .i64 (k : Int))) [] ∧ Holds w1__ (ro R :: F) ∧ Same w w1__ ∧ (k ≤ l.length) ∧ (∀ s ∈ l.take k, GSz s)) (fun x__ => match x__ with | ⟨k, t2_v⟩ => l.length - k) (⟨0, false⟩) ⟨_, congrArg (fun e => mkA 18 e []) (ch (ch (ch (ch rfl rfl) rfl) rfl) (congrArg (vI .i64) ((by first | rfl | omega | (simp; done) | (simp; omega)) : 0 = (0 : Int)))), H, (Same.refl w), (by first | assumption | omega | exact rfl), (fun s h => by simp at h)⟩ ?_
  rintro ⟨k, t2_v⟩ _ w8_ ⟨h, rfl, H9_, S10_, hkk, hok⟩
  refine cR fun _ hK11_ => ?_
  refine sv (v := (vB (decide ((k : Int) < ((List.length l) : Int))))) (x_bin rfl rfl rfl) ?_
  refine wn (hK11_ _ _ ?_)
  refine C_seq (fun _ hK12_ => ?_)
  refine C_cond (b := decide ((k : Int) < ((List.length l) : Int))) rfl (fun c13_t => ?_) (fun c13_f => ?_)
  ·have c13_tp : (k : Int) < ((List.length l) : Int) := of_decide_eq_true c13_t
   refine C_skip (X_then (hK12_ _ _ ?_))
   refine C_seq (fun _ hK14_ => ?_)
   refine C_block ?_
   refine cR fun _ hK15_ => ?_
   obtain ⟨x16_, hx17_, hm18_⟩ := elem_at l k (by omega)
   refine sv (v := (vP (some ⟨(sb v), so v + (k * 5 + 0), none⟩))) (x_idxRS (v := v) rfl hv rfl underlying22 z26 (by omega) (by omega) (by omega : _ = k) rfl) ?_
   refine sv (v := (vA #[(vI .i64 x16_.iD), (Value.string x16_.key), (Value.string x16_.end_), (vB x16_.hasEnd), (vI .i64 x16_.minRev)])) (x_loadN (vs := [(vI .i64 x16_.iD), (Value.string x16_.key), (Value.string x16_.end_), (vB x16_.hasEnd), (vI .i64 x16_.minRev)]) rfl underlying26 rfl z26 rfl (RC.cells (RS.rc hv) (Holds.ro_at H9_ 0 rfl) (k * 5 + 0) (fm_cells GW.len hx17_ (i := 0) rfl))) ?_
   refine S_list (T_alloc z26 H9_ ?_)
   intro b19_ w20_ S22_ H21_
   have S23_ := Same.trans S10_ S22_
   refine S_list0 (T_storeN (vs := [(vI .i64 x16_.iD), (Value.string x16_.key), (Value.string x16_.end_), (vB x16_.hasEnd), (vI .i64 x16_.minRev)]) rfl rfl z26 rfl (by simp [Value.oneCell']) H21_ 0 rfl (Nat.le_of_ble_eq_true (by rfl)) ?_)
   intro w24_ S26_ H25_
   have S27_ := Same.trans S23_ S26_
   refine wn (hK15_ _ _ ?_)
   refine cR fun _ hK28_ => ?_
   refine sv (v := (vA #[(vI .i64 x16_.iD), (Value.string x16_.key), (Value.string x16_.end_), (vB x16_.hasEnd), (vI .i64 x16_.minRev)])) (x_loadN (vs := [(vI .i64 x16_.iD), (Value.string x16_.key), (Value.string x16_.end_), (vB x16_.hasEnd), (vI .i64 x16_.minRev)]) rfl underlying26 rfl z26 rfl (Rd.cells (Holds.rd H25_ 0 rfl) 0 rfl)) ?_
   have H32_ := ((Holds.bring H25_ 1 rfl) :)
   refine S_list (T_call (al := [(vA #[(vI .i64 x16_.iD), (Value.string x16_.key), (Value.string x16_.end_), (vB x16_.hasEnd), (vI .i64 x16_.minRev)])]) (pre := []) rfl rfl cb21 (lwF17 R x16_) H32_ ?_)
   rintro v29_ p36_ w33_ ⟨b30_, rfl, rfl, he31_⟩ S35_ H34_
   have S37_ := Same.trans S27_ S35_
   refine sv (v := (vB (!b30_))) (x_not rfl) ?_
   refine wn (hK28_ _ _ ?_)
   refine C_cond (b := !b30_) rfl (fun c38_t => ?_) (fun c38_f => ?_)
   ·skip
    refine cR fun _ hK39_ => ?_
    refine sv (v := (vB false)) (x_assign rfl) ?_
    refine wn (hK39_ _ _ ?_)
    refine C_ret (X_blkR (X_thenR (X_thenR (X_blkR (X_thenR ?_)))))
    refine R_any (v := (vB false)) (run_results1 rfl rfl) ?_
    have H40_ := Holds.pkF H34_ [0] 1
    exact ⟨_, _, rfl, ⟨false, rfl, rfl, (fun h => by cases h)⟩, S37_, H40_⟩
   ·skip
    refine C_skip (X_blkN (X_then (hK14_ _ _ ?_)))
    refine C_reg ?_
    refine sv (v := (vI .i64 ((k : Int) + 1))) (x_bin rfl rfl (ib_add (IntWalk.i64_in _ (by omega)))) ?_
    refine sm (vI .i64 ((k : Int) + 1)) ?_
    refine wpList_nil (X_then ?_)
    have H41_ := Holds.pkF H34_ [0] 1
    exact ⟨⟨k + 1, t2_v⟩, ⟨_, congrArg (fun e => mkA 18 e []) (ch (ch (ch (ch rfl rfl) rfl) rfl) (congrArg (vI .i64) ((by first | rfl | omega | (simp; done) | (simp; omega)) : (k : Int) + 1 = ((k + 1 : Nat) : Int)))), H41_, S37_, (by first | assumption | omega | exact rfl), (gsz_snoc hok hx17_ (he31_ (by simpa using c38_f)))⟩, by first | omega | (dsimp only; omega) | (simp; omega)⟩
  ·have c13_fp : ¬ ((k : Int) < ((List.length l) : Int)) := of_decide_eq_false c13_f
   refine C_exit (X_thenX (X_thenX (X_blkHit ?_)))
   refine (X_then (hK6_ _ _ ?_))
   refine cR fun _ hK42_ => ?_
   refine sv (v := (vB true)) (x_assign rfl) ?_
   refine wn (hK42_ _ _ ?_)
   refine C_ret ?_
   refine R_any (v := (vB true)) (run_results1 rfl rfl) ?_
   exact ⟨_, _, rfl, ⟨true, rfl, rfl, (fun _ => ⟨by omega, fun s hm => hok s (by rw [List.take_of_length_le (by omega)]; exact hm)⟩)⟩, S10_, H9_⟩

end Go.Proofs.YtlnihndjepjagaaGreat
set_option linter.unusedVariables false
set_option linter.unusedSimpArgs false
namespace Go.Proofs.YtlnihndjepjagaaGreat
open Go Go.RowKit Gw Tryz
open Go.Value renaming int → vI, bool → vB, slice → vS, pointer → vP, agg → vA, tuple → vT

end Go.Proofs.YtlnihndjepjagaaGreat
set_option linter.unusedVariables false
set_option linter.unusedSimpArgs false
namespace Go.Proofs.YtlnihndjepjagaaGreat
open Go Go.RowKit Gw Tryz
open Go.Value renaming int → vI, bool → vB, slice → vS, pointer → vP, agg → vA, tuple → vT

/-! ### The reference -/
def evSp (x : RW) : EV := if x.gone then ⟨true, x.kV_Key, ByteArray.empty, 0, x.rev_Main, 0, 0⟩ else ⟨false, x.kV_Key, x.kV_Value, x.kV_Create, x.kV_Mod, x.kV_Version, x.kV_Lease⟩
def sawB (M : List GW) (x : RW) : Bool := M.any (fun w => seesB w x.kV_Key)
def specL (M : List GW) (L : List RW) : List EV := (L.filter (sawB M)).map evSp
theorem specL_yes {M : List GW} {L : List RW} {k : Nat} {x : RW} (h : L[k]? = some x) (hs : sawB M x = true) : specL M (L.take (k + 1)) = specL M (L.take k) ++ [evSp x] := by
  rw [take_snoc h]; unfold specL; rw [List.filter_append, List.map_append]; simp [hs]
theorem specL_no {M : List GW} {L : List RW} {k : Nat} {x : RW} (h : L[k]? = some x) (hs : sawB M x = false) : specL M (L.take (k + 1)) = specL M (L.take k) := by
  rw [take_snoc h]; unfold specL; rw [List.filter_append, List.map_append]; simp [hs]
theorem specL_len (M : List GW) (L : List RW) (k : Nat) : (specL M (L.take k)).length ≤ k := by
  have h1 := List.length_filter_le (sawB M) (L.take k)
  unfold specL
  rw [List.length_map]
  rw [List.length_take] at h1; omega
theorem evSp_g {x : RW} (h : x.gone = true) : (evSp x) = ⟨true, x.kV_Key, ByteArray.empty, 0, x.rev_Main, 0, 0⟩ := by unfold evSp; rw [if_pos h]
theorem evSp_n {x : RW} (h : x.gone = false) : (evSp x) = ⟨false, x.kV_Key, x.kV_Value, x.kV_Create, x.kV_Mod, x.kV_Version, x.kV_Lease⟩ := by unfold evSp; rw [if_neg (by rw [h]; decide)]
theorem any_snoc {M : List GW} {j : Nat} {w : GW} {f : GW → Bool} (h : M[j]? = some w) : (M.take (j + 1)).any f = ((M.take j).any f || f w) := by
  rw [take_snoc h]; simp


set_option maxHeartbeats 16000000 in
theorem evSpec (R : HP) (rv wv : Value) (L : List RW) (M : List GW) (hL : RS R 9 rv L.length (L.flatMap RW.cells)) (hM : RS R 5 wv (List.length M) (M.flatMap GW.cells)) (hll : L.length ≤ 200) (hml : M.length ≤ 60) :
    TriG Tryz.prog 20 #[rv, wv] R [] (fun R' v__ post__ => ∃ (v' : Value), v__ = v' ∧ post__ = [] ∧ (RS R' 7 v' (List.length (specL M L)) ((specL M L).flatMap EV.cells))) := by
 refine TriG.into (n := 57) (al := [rv, wv]) func20 rfl ntmps20 rfl rfl fun w F H => ?_
 refine cR fun _ hK1_ => ?_
 refine sv (v := (vS none 0 0)) (x_assign rfl) ?_
 refine wn (hK1_ _ _ ?_)
 refine cR fun _ hK2_ => ?_
 refine sv (v := (vS none 0 0)) (x_assign rfl) ?_
 refine wn (hK2_ _ _ ?_)
 refine C_seq (fun _ hK3_ => ?_)
 refine cR fun _ hK4_ => ?_
 refine sv (v := rv) (x_move rfl) ?_
 refine sv (v := (vI .i64 (L.length : Int))) (x_lenRS rfl hL underlying47) ?_
 refine sm (vI .i64 0) ?_
 refine wn (hK4_ _ _ ?_)
 refine C_block ?_
 have H5_ : Holds w (sl 54 7 (vS none 0 0) (List.length ([] : List EV)) (([] : List EV).flatMap EV.cells) :: ro R :: F) := Holds.add_nil H 54 7
 have H6_ := Holds.resl H5_ 0 rfl ((by first | rfl | (simp [GW.cells, GO.cells, GA.cells, RW.cells, ZR.cells, RV.cells, MR.cells, EV.cells]; done)) : ([] : List EV).flatMap EV.cells = (specL M (L.take 0)).flatMap EV.cells) ((by first | rfl | omega | (simp; done) | (simp; omega)) : (List.length ([] : List EV)) = (List.length (specL M (L.take 0))))
 refine C_loop (γ := Nat × Value) (fun x__ a__ w1__ => match x__ with | ⟨k, cv⟩ => ∃ h : Env, a__ = mkA 57 (upd (upd (upd (upd (upd (upd h 1 wv) 4 (vS none 0 0)) 5 cv) 11 rv) 12 (vI .i64 (L.length : Int))) 13 (vI .i64 (k : Int))) [] ∧ Holds w1__ (sl 54 7 cv (List.length (specL M (L.take k))) ((specL M (L.take k)).flatMap EV.cells) :: ro R :: F) ∧ Same w w1__ ∧ (k ≤ L.length)) (fun x__ => match x__ with | ⟨k, cv⟩ => L.length - k) (⟨0, (vS none 0 0)⟩) ⟨_, congrArg (fun e => mkA 57 e []) (ch (ch (ch (ch (ch (ch rfl rfl) rfl) (rfl : (vS none 0 0) = ((vS none 0 0)))) rfl) rfl) (congrArg (vI .i64) ((by first | rfl | omega | (simp; done) | (simp; omega)) : 0 = (0 : Int)))), H6_, (Same.refl w), (by first | assumption | omega | exact rfl)⟩ ?_
 rintro ⟨k, cv⟩ _ w7_ ⟨h, rfl, H8_, S9_, hkk⟩
 refine cR fun _ hK10_ => ?_
 refine sv (v := (vB (decide ((k : Int) < (L.length : Int))))) (x_bin rfl rfl rfl) ?_
 refine wn (hK10_ _ _ ?_)
 refine C_seq (fun _ hK11_ => ?_)
 refine C_cond (b := decide ((k : Int) < (L.length : Int))) rfl (fun c12_t => ?_) (fun c12_f => ?_)
 ·have c12_tp : (k : Int) < (L.length : Int) := of_decide_eq_true c12_t
  refine C_skip (X_then (hK11_ _ _ ?_))
  refine C_seq (fun _ hK13_ => ?_)
  refine C_block ?_
  refine cR fun _ hK14_ => ?_
  obtain ⟨x15_, hx16_, hm17_⟩ := elem_at L k (by omega)
  refine sv (v := (vP (some ⟨(sb rv), so rv + (k * 9 + 0), none⟩))) (x_idxRS (v := rv) rfl hL rfl underlying47 z70 (by omega) (by omega) (by omega : _ = k) rfl) ?_
  refine sv (v := (vA #[(vI .i64 x15_.rev_Main), (vI .i64 x15_.rev_Sub), (vB x15_.gone), (Value.string x15_.kV_Key), (Value.string x15_.kV_Value), (vI .i64 x15_.kV_Create), (vI .i64 x15_.kV_Mod), (vI .i64 x15_.kV_Version), (vI .i64 x15_.kV_Lease)])) (x_loadN (vs := [(vI .i64 x15_.rev_Main), (vI .i64 x15_.rev_Sub), (vB x15_.gone), (Value.string x15_.kV_Key), (Value.string x15_.kV_Value), (vI .i64 x15_.kV_Create), (vI .i64 x15_.kV_Mod), (vI .i64 x15_.kV_Version), (vI .i64 x15_.kV_Lease)]) rfl underlying70 rfl z70 rfl (RC.cells (RS.rc hL) (Holds.ro_at H8_ 1 rfl) (k * 9 + 0) (fm_cells RW.len hx16_ (i := 0) rfl))) ?_
  refine S_list (T_alloc z70 H8_ ?_)
  intro b18_ w19_ S21_ H20_
  have S22_ := Same.trans S9_ S21_
  refine S_list0 (T_storeN (vs := [(vI .i64 x15_.rev_Main), (vI .i64 x15_.rev_Sub), (vB x15_.gone), (Value.string x15_.kV_Key), (Value.string x15_.kV_Value), (vI .i64 x15_.kV_Create), (vI .i64 x15_.kV_Mod), (vI .i64 x15_.kV_Version), (vI .i64 x15_.kV_Lease)]) rfl rfl z70 rfl (by simp [Value.oneCell']) H20_ 0 rfl (Nat.le_of_ble_eq_true (by rfl)) ?_)
  intro w23_ S25_ H24_
  have S26_ := Same.trans S22_ S25_
  refine wn (hK14_ _ _ ?_)
  refine cR fun _ hK27_ => ?_
  refine sv (v := (vB false)) (x_assign rfl) ?_
  refine wn (hK27_ _ _ ?_)
  refine C_seq (fun _ hK28_ => ?_)
  refine cR fun _ hK29_ => ?_
  refine sv (v := wv) (x_move rfl) ?_
  refine sv (v := (vI .i64 ((List.length M) : Int))) (x_lenRS rfl hM underlying22) ?_
  refine sm (vI .i64 0) ?_
  refine wn (hK29_ _ _ ?_)
  refine C_block ?_
  refine C_loop (γ := Nat × Bool) (fun x__ a__ w1__ => match x__ with | ⟨j, bs⟩ => ∃ h : Env, a__ = mkA 57 (upd (upd (upd (upd (upd (upd (upd (upd (upd (upd (upd h 1 wv) 4 (vS none 0 0)) 5 cv) 7 (vP (some ⟨b18_, 0, none⟩))) 8 (vB bs)) 11 rv) 12 (vI .i64 (L.length : Int))) 13 (vI .i64 (k : Int))) 17 wv) 18 (vI .i64 ((List.length M) : Int))) 19 (vI .i64 (j : Int))) [] ∧ Holds w1__ (cl b18_ 70 [(vI .i64 x15_.rev_Main), (vI .i64 x15_.rev_Sub), (vB x15_.gone), (Value.string x15_.kV_Key), (Value.string x15_.kV_Value), (vI .i64 x15_.kV_Create), (vI .i64 x15_.kV_Mod), (vI .i64 x15_.kV_Version), (vI .i64 x15_.kV_Lease)] :: sl 54 7 cv (List.length (specL M (L.take k))) ((specL M (L.take k)).flatMap EV.cells) :: ro R :: F) ∧ Same w w1__ ∧ (j ≤ M.length) ∧ (bs = List.any (List.take j M) (fun w => seesB w x15_.kV_Key))) (fun x__ => match x__ with | ⟨j, bs⟩ => M.length - j) (⟨0, false⟩) ⟨_, congrArg (fun e => mkA 57 e []) (ch (ch (ch (ch (ch (ch (ch (ch (ch (ch (ch rfl rfl) rfl) rfl) rfl) rfl) rfl) rfl) rfl) rfl) rfl) (congrArg (vI .i64) ((by first | rfl | omega | (simp; done) | (simp; omega)) : 0 = (0 : Int)))), H24_, S26_, (by first | assumption | omega | exact rfl), (rfl)⟩ ?_
  rintro ⟨j, bs⟩ _ w30_ ⟨h, rfl, H31_, S32_, hjj, hbs⟩
  refine cR fun _ hK33_ => ?_
  refine sv (v := (vB (decide ((j : Int) < ((List.length M) : Int))))) (x_bin rfl rfl rfl) ?_
  refine wn (hK33_ _ _ ?_)
  refine C_seq (fun _ hK34_ => ?_)
  refine C_cond (b := decide ((j : Int) < ((List.length M) : Int))) rfl (fun c35_t => ?_) (fun c35_f => ?_)
  ·have c35_tp : (j : Int) < ((List.length M) : Int) := of_decide_eq_true c35_t
   refine C_skip (X_then (hK34_ _ _ ?_))
   refine C_seq (fun _ hK36_ => ?_)
   refine C_block ?_
   refine cR fun _ hK37_ => ?_
   obtain ⟨x38_, hx39_, hm40_⟩ := elem_at M j (by omega)
   refine sv (v := (vP (some ⟨(sb wv), so wv + (j * 5 + 0), none⟩))) (x_idxRS (v := wv) rfl hM rfl underlying22 z26 (by omega) (by omega) (by omega : _ = j) rfl) ?_
   refine sv (v := (vA #[(vI .i64 x38_.iD), (Value.string x38_.key), (Value.string x38_.end_), (vB x38_.hasEnd), (vI .i64 x38_.minRev)])) (x_loadN (vs := [(vI .i64 x38_.iD), (Value.string x38_.key), (Value.string x38_.end_), (vB x38_.hasEnd), (vI .i64 x38_.minRev)]) rfl underlying26 rfl z26 rfl (RC.cells (RS.rc hM) (Holds.ro_at H31_ 2 rfl) (j * 5 + 0) (fm_cells GW.len hx39_ (i := 0) rfl))) ?_
   refine S_list (T_alloc z26 H31_ ?_)
   intro b41_ w42_ S44_ H43_
   have S45_ := Same.trans S32_ S44_
   refine S_list0 (T_storeN (vs := [(vI .i64 x38_.iD), (Value.string x38_.key), (Value.string x38_.end_), (vB x38_.hasEnd), (vI .i64 x38_.minRev)]) rfl rfl z26 rfl (by simp [Value.oneCell']) H43_ 0 rfl (Nat.le_of_ble_eq_true (by rfl)) ?_)
   intro w46_ S48_ H47_
   have S49_ := Same.trans S45_ S48_
   refine wn (hK37_ _ _ ?_)
   refine C_reg ?_
   refine sm (vB bs) ?_
   refine sm (vB bs) ?_
   rcases Bool.eq_false_or_eq_true (bs) with c50_t | c50_f
   ·skip
    refine S_no (j := 1) (dj := 24) (b := true) rfl rfl (congrArg vB c50_t) (by decide) ?_
    refine S_no (j := 1) (dj := 24) (b := true) rfl rfl (congrArg vB c50_t) (by decide) ?_
    refine S_no (j := 1) (dj := 24) (b := true) rfl rfl (congrArg vB c50_t) (by decide) ?_
    refine S_no (j := 1) (dj := 24) (b := true) rfl rfl (congrArg vB c50_t) (by decide) ?_
    refine S_no (j := 1) (dj := 24) (b := true) rfl rfl (congrArg vB c50_t) (by decide) ?_
    refine S_list (T_pickT (v := (vB true)) (congrArg vB c50_t) rfl ?_)
    refine sv (v := (vB true)) (x_assign rfl) ?_
    refine wpList_nil (X_blkN (X_then (hK36_ _ _ ?_)))
    refine C_reg ?_
    refine sv (v := (vI .i64 ((j : Int) + 1))) (x_bin rfl rfl (ib_add (IntWalk.i64_in _ (by omega)))) ?_
    refine sm (vI .i64 ((j : Int) + 1)) ?_
    refine wpList_nil (X_then ?_)
    have H51_ := Holds.pkF H47_ [1, 1, 1] 1
    exact ⟨⟨j + 1, true⟩, ⟨_, congrArg (fun e => mkA 57 e []) (ch (ch (ch (ch (ch (ch (ch (ch (ch (ch (ch rfl rfl) rfl) rfl) rfl) rfl) rfl) rfl) rfl) rfl) rfl) (congrArg (vI .i64) ((by first | rfl | omega | (simp; done) | (simp; omega)) : (j : Int) + 1 = ((j + 1 : Nat) : Int)))), H51_, S49_, (by first | assumption | omega | exact rfl), (by rw [any_snoc (List.getElem?_eq_getElem (by omega)), ← hbs, show bs = true by simpa using c50_t]; rfl)⟩, by first | omega | (dsimp only; omega) | (simp; omega)⟩
   ·skip
    refine S_yes (j := 1) (dj := 24) (b := false) rfl rfl (congrArg vB c50_f) (T_val (v := (vA #[(vI .i64 x38_.iD), (Value.string x38_.key), (Value.string x38_.end_), (vB x38_.hasEnd), (vI .i64 x38_.minRev)])) (x_loadN (vs := [(vI .i64 x38_.iD), (Value.string x38_.key), (Value.string x38_.end_), (vB x38_.hasEnd), (vI .i64 x38_.minRev)]) rfl underlying26 rfl z26 rfl (Rd.cells (Holds.rd H47_ 0 rfl) 0 rfl)) ?_)
    refine S_yes (j := 1) (dj := 24) (b := false) rfl rfl (congrArg vB c50_f) (T_val (v := (vP (some ⟨b18_, 3, none⟩))) (by kernel_rfl) ?_)
    refine S_yes (j := 1) (dj := 24) (b := false) rfl rfl (congrArg vB c50_f) (T_val (v := (vP (some ⟨b18_, 3, none⟩))) (by kernel_rfl) ?_)
    refine S_yes (j := 1) (dj := 24) (b := false) rfl rfl (congrArg vB c50_f) (T_val (v := (Value.string x15_.kV_Key)) (x_load1 rfl underlying9 rfl ((Holds.rd H47_ 1 rfl) 3 (Value.string x15_.kV_Key) rfl)) ?_)
    have H53_ := ((Holds.bring H47_ 3 rfl) :)
    refine S_yes (j := 1) (dj := 24) (b := false) rfl rfl (congrArg vB c50_f) (T_call (al := [(vA #[(vI .i64 x38_.iD), (Value.string x38_.key), (Value.string x38_.end_), (vB x38_.hasEnd), (vI .i64 x38_.minRev)]), (Value.string x15_.kV_Key)]) (pre := []) rfl rfl cb33 (crSees R x38_ x15_.kV_Key) H53_ ?_)
    rintro v52_ p57_ w54_ ⟨rfl, rfl⟩ S56_ H55_
    have S58_ := Same.trans S49_ S56_
    refine S_list (T_pickF (v := (vB (seesB x38_ x15_.kV_Key))) (congrArg vB c50_f) rfl ?_)
    refine sv (v := (vB (seesB x38_ x15_.kV_Key))) (x_assign rfl) ?_
    refine wpList_nil (X_blkN (X_then (hK36_ _ _ ?_)))
    refine C_reg ?_
    refine sv (v := (vI .i64 ((j : Int) + 1))) (x_bin rfl rfl (ib_add (IntWalk.i64_in _ (by omega)))) ?_
    refine sm (vI .i64 ((j : Int) + 1)) ?_
    refine wpList_nil (X_then ?_)
    have H59_ := Holds.pkF H55_ [2, 2, 0] 1
    exact ⟨⟨j + 1, (seesB x38_ x15_.kV_Key)⟩, ⟨_, congrArg (fun e => mkA 57 e []) (ch (ch (ch (ch (ch (ch (ch (ch (ch (ch (ch rfl rfl) rfl) rfl) rfl) rfl) rfl) rfl) rfl) rfl) rfl) (congrArg (vI .i64) ((by first | rfl | omega | (simp; done) | (simp; omega)) : (j : Int) + 1 = ((j + 1 : Nat) : Int)))), H59_, S58_, (by first | assumption | omega | exact rfl), (by rw [any_snoc hx39_, ← hbs, show bs = false by simpa using c50_f]; rfl)⟩, by first | omega | (dsimp only; omega) | (simp; omega)⟩
  ·have c35_fp : ¬ ((j : Int) < ((List.length M) : Int)) := of_decide_eq_false c35_f
   refine C_exit (X_thenX (X_thenX (X_blkHit ?_)))
   refine (X_then (hK28_ _ _ ?_))
   refine C_block ?_
   refine cR fun _ hK60_ => ?_
   refine sm (vB bs) ?_
   refine sv (v := (vB (!bs))) (x_not rfl) ?_
   refine sv (v := (vB (!bs))) (x_assign rfl) ?_
   refine wn (hK60_ _ _ ?_)
   refine C_cond (b := !bs) rfl (fun c61_t => ?_) (fun c61_f => ?_)
   ·skip
    refine C_skip (X_blkN (X_blkN (X_then (hK13_ _ _ ?_))))
    refine C_reg ?_
    refine sv (v := (vI .i64 ((k : Int) + 1))) (x_bin rfl rfl (ib_add (IntWalk.i64_in _ (by omega)))) ?_
    refine sm (vI .i64 ((k : Int) + 1)) ?_
    refine wpList_nil (X_then ?_)
    have hsaw62_ : sawB M x15_ = false := by rw [← show bs = false by simpa using c61_t, hbs, List.take_of_length_le (by omega)]; rfl
    have H63_ := Holds.resl H31_ 1 rfl (by rw [specL_no hx16_ hsaw62_] : (specL M (L.take k)).flatMap EV.cells = (specL M (L.take (k + 1))).flatMap EV.cells) (by rw [specL_no hx16_ hsaw62_] : (List.length (specL M (L.take k))) = (List.length (specL M (L.take (k + 1)))))
    have H64_ := Holds.pkF H63_ [1, 1] 1
    exact ⟨⟨k + 1, cv⟩, ⟨_, congrArg (fun e => mkA 57 e []) (ch (ch (ch (ch (ch (ch rfl rfl) rfl) rfl) rfl) rfl) (congrArg (vI .i64) ((by first | rfl | omega | (simp; done) | (simp; omega)) : (k : Int) + 1 = ((k + 1 : Nat) : Int)))), H64_, S32_, (by first | assumption | omega | exact rfl)⟩, by first | omega | (dsimp only; omega) | (simp; omega)⟩
   ·skip
    refine cR fun _ hK65_ => ?_
    refine sv (v := (vP (some ⟨b18_, 2, none⟩))) (by kernel_rfl) ?_
    refine sv (v := (vB x15_.gone)) (x_load1 rfl underlying4 rfl ((Holds.rd H31_ 0 rfl) 2 (vB x15_.gone) rfl)) ?_
    refine sv (v := (vB x15_.gone)) (x_assign rfl) ?_
    refine wn (hK65_ _ _ ?_)
    refine C_cond (b := x15_.gone) rfl (fun c66_t => ?_) (fun c66_f => ?_)
    ·skip
     refine C_reg ?_
     refine sv (v := cv) (x_move rfl) ?_
     refine sv (v := (vP (some ⟨b18_, 3, none⟩))) (by kernel_rfl) ?_
     refine sv (v := (vP (some ⟨b18_, 3, none⟩))) (by kernel_rfl) ?_
     refine sv (v := (Value.string x15_.kV_Key)) (x_load1 rfl underlying9 rfl ((Holds.rd H31_ 0 rfl) 3 (Value.string x15_.kV_Key) rfl)) ?_
     refine sv (v := (vP (some ⟨b18_, 0, none⟩))) (by kernel_rfl) ?_
     refine sv (v := (vP (some ⟨b18_, 0, none⟩))) (by kernel_rfl) ?_
     refine sv (v := (vI .i64 x15_.rev_Main)) (x_load1 rfl underlying2 rfl ((Holds.rd H31_ 0 rfl) 0 (vI .i64 x15_.rev_Main) rfl)) ?_
     refine sv (v := (vA #[(Value.string x15_.kV_Key), (Value.string ByteArray.empty), (vI .i64 0), (vI .i64 x15_.rev_Main), (vI .i64 0), (vI .i64 0)])) (by kernel_rfl) ?_
     refine sv (v := (vA #[(vB true), (Value.string x15_.kV_Key), (Value.string ByteArray.empty), (vI .i64 0), (vI .i64 x15_.rev_Main), (vI .i64 0), (vI .i64 0)])) (by kernel_rfl) ?_
     refine S_list (T_new (obj := .cells #[(vB true), (Value.string x15_.kV_Key), (Value.string ByteArray.empty), (vI .i64 0), (vI .i64 x15_.rev_Main), (vI .i64 0), (vI .i64 0)] 54) (f := fun b__ => .slice (some ⟨b__, 0, none⟩) 1 1) (A := fun b__ => cl b__ 54 [(vB true), (Value.string x15_.kV_Key), (Value.string ByteArray.empty), (vI .i64 0), (vI .i64 x15_.rev_Main), (vI .i64 0), (vI .i64 0)]) (by kernel_rfl) (fun l h => h.alloc _ _) H31_ ?_)
     intro b67_ w68_ S70_ H69_
     have S71_ := Same.trans S32_ S70_
     refine S_list (T_append rfl rfl underlying27 z54 rfl (by decide) H69_ 2 rfl (Holds.cl_src H69_ 0 rfl underlying27 (by simp [Value.oneCell']) rfl) (by have h1__ := specL_len M L k; omega) ?_)
     intro v72_ w73_ S75_ H74_
     have S76_ := Same.trans S71_ S75_
     refine sv (v := v72_) (x_assign rfl) ?_
     refine wpList_nil (X_blkN (X_blkN (X_then (hK13_ _ _ ?_))))
     refine C_reg ?_
     refine sv (v := (vI .i64 ((k : Int) + 1))) (x_bin rfl rfl (ib_add (IntWalk.i64_in _ (by omega)))) ?_
     refine sm (vI .i64 ((k : Int) + 1)) ?_
     refine wpList_nil (X_then ?_)
     have hsaw77_ : sawB M x15_ = true := by rw [← show bs = true by simpa using c61_f, hbs, List.take_of_length_le (by omega)]; rfl
     have H78_ := Holds.resl H74_ 2 rfl (by rw [specL_yes hx16_ hsaw77_, evSp_g (by simpa using c66_t), List.flatMap_append]; simp [EV.cells] : ((specL M (L.take k)).flatMap EV.cells) ++ [(vB true), (Value.string x15_.kV_Key), (Value.string ByteArray.empty), (vI .i64 0), (vI .i64 x15_.rev_Main), (vI .i64 0), (vI .i64 0)] = (specL M (L.take (k + 1))).flatMap EV.cells) (by rw [specL_yes hx16_ hsaw77_]; simp : (List.length (specL M (L.take k))) + 1 = (List.length (specL M (L.take (k + 1)))))
     have H79_ := Holds.pkF H78_ [2, 2] 2
     exact ⟨⟨k + 1, v72_⟩, ⟨_, congrArg (fun e => mkA 57 e []) (ch (ch (ch (ch (ch (ch rfl rfl) rfl) rfl) rfl) rfl) (congrArg (vI .i64) ((by first | rfl | omega | (simp; done) | (simp; omega)) : (k : Int) + 1 = ((k + 1 : Nat) : Int)))), H79_, S76_, (by first | assumption | omega | exact rfl)⟩, by first | omega | (dsimp only; omega) | (simp; omega)⟩
    ·skip
     refine C_reg ?_
     refine sv (v := cv) (x_move rfl) ?_
     refine sv (v := (vP (some ⟨b18_, 3, none⟩))) (by kernel_rfl) ?_
     refine sv (v := (vA #[(Value.string x15_.kV_Key), (Value.string x15_.kV_Value), (vI .i64 x15_.kV_Create), (vI .i64 x15_.kV_Mod), (vI .i64 x15_.kV_Version), (vI .i64 x15_.kV_Lease)])) (x_loadN (vs := [(Value.string x15_.kV_Key), (Value.string x15_.kV_Value), (vI .i64 x15_.kV_Create), (vI .i64 x15_.kV_Mod), (vI .i64 x15_.kV_Version), (vI .i64 x15_.kV_Lease)]) rfl underlying52 rfl z52 rfl (Rd.cells (Holds.rd H31_ 0 rfl) 3 rfl)) ?_
     refine sv (v := (vA #[(vB false), (Value.string x15_.kV_Key), (Value.string x15_.kV_Value), (vI .i64 x15_.kV_Create), (vI .i64 x15_.kV_Mod), (vI .i64 x15_.kV_Version), (vI .i64 x15_.kV_Lease)])) (by kernel_rfl) ?_
     refine S_list (T_new (obj := .cells #[(vB false), (Value.string x15_.kV_Key), (Value.string x15_.kV_Value), (vI .i64 x15_.kV_Create), (vI .i64 x15_.kV_Mod), (vI .i64 x15_.kV_Version), (vI .i64 x15_.kV_Lease)] 54) (f := fun b__ => .slice (some ⟨b__, 0, none⟩) 1 1) (A := fun b__ => cl b__ 54 [(vB false), (Value.string x15_.kV_Key), (Value.string x15_.kV_Value), (vI .i64 x15_.kV_Create), (vI .i64 x15_.kV_Mod), (vI .i64 x15_.kV_Version), (vI .i64 x15_.kV_Lease)]) (by kernel_rfl) (fun l h => h.alloc _ _) H31_ ?_)
     intro b80_ w81_ S83_ H82_
     have S84_ := Same.trans S32_ S83_
     refine S_list (T_append rfl rfl underlying27 z54 rfl (by decide) H82_ 2 rfl (Holds.cl_src H82_ 0 rfl underlying27 (by simp [Value.oneCell']) rfl) (by have h1__ := specL_len M L k; omega) ?_)
     intro v85_ w86_ S88_ H87_
     have S89_ := Same.trans S84_ S88_
     refine sv (v := v85_) (x_assign rfl) ?_
     refine wpList_nil (X_blkN (X_blkN (X_then (hK13_ _ _ ?_))))
     refine C_reg ?_
     refine sv (v := (vI .i64 ((k : Int) + 1))) (x_bin rfl rfl (ib_add (IntWalk.i64_in _ (by omega)))) ?_
     refine sm (vI .i64 ((k : Int) + 1)) ?_
     refine wpList_nil (X_then ?_)
     have hsaw90_ : sawB M x15_ = true := by rw [← show bs = true by simpa using c61_f, hbs, List.take_of_length_le (by omega)]; rfl
     have H91_ := Holds.resl H87_ 2 rfl (by rw [specL_yes hx16_ hsaw90_, evSp_n (by simpa using c66_f), List.flatMap_append]; simp [EV.cells] : ((specL M (L.take k)).flatMap EV.cells) ++ [(vB false), (Value.string x15_.kV_Key), (Value.string x15_.kV_Value), (vI .i64 x15_.kV_Create), (vI .i64 x15_.kV_Mod), (vI .i64 x15_.kV_Version), (vI .i64 x15_.kV_Lease)] = (specL M (L.take (k + 1))).flatMap EV.cells) (by rw [specL_yes hx16_ hsaw90_]; simp : (List.length (specL M (L.take k))) + 1 = (List.length (specL M (L.take (k + 1)))))
     have H92_ := Holds.pkF H91_ [2, 2] 2
     exact ⟨⟨k + 1, v85_⟩, ⟨_, congrArg (fun e => mkA 57 e []) (ch (ch (ch (ch (ch (ch rfl rfl) rfl) rfl) rfl) rfl) (congrArg (vI .i64) ((by first | rfl | omega | (simp; done) | (simp; omega)) : (k : Int) + 1 = ((k + 1 : Nat) : Int)))), H92_, S89_, (by first | assumption | omega | exact rfl)⟩, by first | omega | (dsimp only; omega) | (simp; omega)⟩
 ·have c12_fp : ¬ ((k : Int) < (L.length : Int)) := of_decide_eq_false c12_f
  refine C_exit (X_thenX (X_thenX (X_blkHit ?_)))
  refine (X_then (hK3_ _ _ ?_))
  refine cR fun _ hK93_ => ?_
  refine sv (v := cv) (x_move rfl) ?_
  refine sv (v := cv) (x_assign rfl) ?_
  refine wn (hK93_ _ _ ?_)
  refine C_ret ?_
  refine R_any (v := cv) (run_results1 rfl rfl) ?_
  have H94_ := Holds.resl H8_ 0 rfl (by rw [List.take_of_length_le (by omega)] : (specL M (L.take k)).flatMap EV.cells = (specL M L).flatMap EV.cells) (by rw [List.take_of_length_le (by omega)] : (List.length (specL M (L.take k))) = (List.length (specL M L)))
  have H95_ := ((Holds.bring H94_ 1 rfl) :)
  obtain ⟨R96_, hs97_, ⟨R98_, ha99_, hs100_⟩, H101_⟩ := Holds.gift H95_
  have hr102_ : RS R96_ 7 cv (List.length (specL M L)) ((specL M L).flatMap EV.cells) := (sl_RS ha99_ (Sub.rfl' _)).mono hs100_
  exact ⟨R96_, _, _, rfl, hs97_, ⟨cv, rfl, rfl, (hr102_)⟩, S9_, H101_⟩
end Go.Proofs.YtlnihndjepjagaaGreat
