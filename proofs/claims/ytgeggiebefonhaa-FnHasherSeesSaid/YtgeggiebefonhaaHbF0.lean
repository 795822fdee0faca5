/- A row is written into the hash. -/
import Derived.Test.YtgeggiebefonhaaHbE
set_option linter.unusedVariables false
set_option linter.unusedSimpArgs false
namespace Go.Proofs.Ytgeggiebefonhaa
open Go Go.RowKit Gw

set_option maxHeartbeats 400000 in
theorem hGT (R : HP) (a b c d : Int) :
    Tri Try.prog 94 #[(Value.agg #[(Value.int .i64 a), (Value.int .i64 b)]), (Value.agg #[(Value.int .i64 c), (Value.int .i64 d)])] R [] (fun v__ post__ => v__ = (Value.bool (gt a b c d)) ∧ post__ = []) := by
  refine Tri.into (n := 20) (al := [(Value.agg #[(Value.int .i64 a), (Value.int .i64 b)]), (Value.agg #[(Value.int .i64 c), (Value.int .i64 d)])]) Try.func94 rfl Try.ntmps94 rfl rfl fun w F H => ?_
  replace H : Holds w (ro R :: F) := H
  refine C_seq (fun K1_ hK1_ => ?_)
  refine C_reg ?_
  refine S_list (T_box (v := (Value.agg #[(Value.int .i64 a), (Value.int .i64 b)])) rfl H ?_)
  intro b2_ w3_ S5_ H4_
  replace H4_ : Holds w3_ (cl b2_ 146 [(Value.int .i64 a), (Value.int .i64 b)] :: ro R :: F) := H4_
  have S6_ := Same.trans (Same.refl w) S5_
  refine S_list (T_box (v := (Value.agg #[(Value.int .i64 c), (Value.int .i64 d)])) rfl H4_ ?_)
  intro b7_ w8_ S10_ H9_
  replace H9_ : Holds w8_ (cl b7_ 146 [(Value.int .i64 c), (Value.int .i64 d)] :: cl b2_ 146 [(Value.int .i64 a), (Value.int .i64 b)] :: ro R :: F) := H9_
  have S11_ := Same.trans S6_ S10_
  refine S_list (T_val (v := (Value.bool false)) (x_assign rfl) ?_)
  refine wpList_nil ?_
  refine (X_then (hK1_ _ _ ?_))
  clear hK1_
  refine C_seq (fun K12_ hK12_ => ?_)
  refine C_seq (fun K13_ hK13_ => ?_)
  refine C_reg ?_
  refine S_list (T_val (v := (Value.pointer (some ⟨b2_, 0, none⟩))) (by kernel_rfl) ?_)
  refine S_list (T_val (v := (Value.int .i64 a)) (x_load1 rfl Try.underlying2 rfl ((Holds.rd H9_ 1 rfl) 0 (Value.int .i64 a) rfl)) ?_)
  refine S_list (T_val (v := (Value.pointer (some ⟨b7_, 0, none⟩))) (by kernel_rfl) ?_)
  refine S_list (T_val (v := (Value.int .i64 c)) (x_load1 rfl Try.underlying2 rfl ((Holds.rd H9_ 0 rfl) 0 (Value.int .i64 c) rfl)) ?_)
  refine S_list (T_val (v := (Value.bool (decide (c < a)))) (x_bin rfl rfl rfl) ?_)
  refine wpList_nil ?_
  refine (X_then (hK13_ _ _ ?_))
  clear hK13_
  refine C_cond (b := decide (c < a)) rfl (fun c14_t => ?_) (fun c14_f => ?_)
  · have c14_tp : c < a := of_decide_eq_true c14_t
    refine C_seq (fun K15_ hK15_ => ?_)
    refine C_reg ?_
    refine S_list (T_val (v := (Value.bool true)) (x_assign rfl) ?_)
    refine wpList_nil ?_
    refine (X_then (hK15_ _ _ ?_))
    clear hK15_
    refine C_ret (X_thenR ?_)
    refine R_any (v := (Value.bool true)) (run_results1 rfl rfl) ?_
    have H16_ : Holds w8_ (ro R :: F) := (Holds.erase (Holds.erase (Holds.bring H9_ 2 rfl) 1) 1)
    exact ⟨_, [], rfl, ⟨(congrArg Value.bool (((decide_eq_true (by omega)).symm) : true = (gt a b c d))), rfl⟩, S11_, H16_⟩
  · have c14_fp : ¬ (c < a) := of_decide_eq_false c14_f
    refine C_skip (X_then (hK12_ _ _ ?_))
    clear hK12_
    refine C_seq (fun K17_ hK17_ => ?_)
    refine C_seq (fun K18_ hK18_ => ?_)
    refine C_reg ?_
    refine S_list (T_val (v := (Value.pointer (some ⟨b2_, 0, none⟩))) (by kernel_rfl) ?_)
    refine S_list (T_val (v := (Value.int .i64 a)) (x_load1 rfl Try.underlying2 rfl ((Holds.rd H9_ 1 rfl) 0 (Value.int .i64 a) rfl)) ?_)
    refine S_list (T_val (v := (Value.pointer (some ⟨b7_, 0, none⟩))) (by kernel_rfl) ?_)
    refine S_list (T_val (v := (Value.int .i64 c)) (x_load1 rfl Try.underlying2 rfl ((Holds.rd H9_ 0 rfl) 0 (Value.int .i64 c) rfl)) ?_)
    refine S_list (T_val (v := (Value.bool (decide (a < c)))) (x_bin rfl rfl rfl) ?_)
    refine wpList_nil ?_
    refine (X_then (hK18_ _ _ ?_))
    clear hK18_
    refine C_cond (b := decide (a < c)) rfl (fun c19_t => ?_) (fun c19_f => ?_)
    · have c19_tp : a < c := of_decide_eq_true c19_t
      refine C_seq (fun K20_ hK20_ => ?_)
      refine C_reg ?_
      refine S_list (T_val (v := (Value.bool false)) (x_assign rfl) ?_)
      refine wpList_nil ?_
      refine (X_then (hK20_ _ _ ?_))
      clear hK20_
      refine C_ret (X_thenR ?_)
      refine R_any (v := (Value.bool false)) (run_results1 rfl rfl) ?_
      have H21_ : Holds w8_ (ro R :: F) := (Holds.erase (Holds.erase (Holds.bring H9_ 2 rfl) 1) 1)
      exact ⟨_, [], rfl, ⟨(congrArg Value.bool (((decide_eq_false (by omega)).symm) : false = (gt a b c d))), rfl⟩, S11_, H21_⟩
    · have c19_fp : ¬ (a < c) := of_decide_eq_false c19_f
      refine C_skip (X_then (hK17_ _ _ ?_))
      clear hK17_
      refine C_seq (fun K22_ hK22_ => ?_)
      refine C_reg ?_
      refine S_list (T_val (v := (Value.pointer (some ⟨b2_, 1, none⟩))) (by kernel_rfl) ?_)
      refine S_list (T_val (v := (Value.int .i64 b)) (x_load1 rfl Try.underlying2 rfl ((Holds.rd H9_ 1 rfl) 1 (Value.int .i64 b) rfl)) ?_)
      refine S_list (T_val (v := (Value.pointer (some ⟨b7_, 1, none⟩))) (by kernel_rfl) ?_)
      refine S_list (T_val (v := (Value.int .i64 d)) (x_load1 rfl Try.underlying2 rfl ((Holds.rd H9_ 0 rfl) 1 (Value.int .i64 d) rfl)) ?_)
      refine S_list (T_val (v := (Value.bool (decide (d < b)))) (x_bin rfl rfl rfl) ?_)
      refine S_list (T_val (v := (Value.bool (decide (d < b)))) (x_assign rfl) ?_)
      refine wpList_nil ?_
      refine (X_then (hK22_ _ _ ?_))
      clear hK22_
      refine C_ret ?_
      refine R_any (v := (Value.bool (decide (d < b)))) (run_results1 rfl rfl) ?_
      have H23_ : Holds w8_ (ro R :: F) := (Holds.erase (Holds.erase (Holds.bring H9_ 2 rfl) 1) 1)
      exact ⟨_, [], rfl, ⟨(congrArg Value.bool ((decide_eq_decide.2 (by omega)) : (decide (d < b)) = (gt a b c d))), rfl⟩, S11_, H23_⟩

set_option maxHeartbeats 400000 in
theorem hWriteIn (R : HP) (hb cb mb : Nat) (n compact rev : Int) (kv vv : Value) (m : List ((Int × Int) × Value)) (ks : List (Int × Int)) (x : RW) (hk : RS R 1 kv x.kb.length (bytesV x.kb)) (hv : RS R 1 vv x.vb.length (bytesV x.vb)) (hmk : MK m ks) (hm0 : 0 ≤ x.rev_Main) (hm1 : x.rev_Main < 9223372036854775808) (hs0 : 0 ≤ x.rev_Sub) (hs1 : x.rev_Sub < 9223372036854775808) (hr0 : 0 ≤ rev) (hr1 : rev < 4611686018427387904) (hc0 : -1 ≤ compact) (hc1 : compact < 4611686018427387904) (hkl : x.kb.length ≤ 100) (hvl : x.vb.length ≤ 1000) (hmg : mget m (x.rev_Main, x.rev_Sub) = some (.agg #[])) :
    Tri Try.prog 69 #[(Value.pointer (some ⟨hb, 0, none⟩)), kv, vv] R [cl hb 150 [(Value.pointer (some ⟨cb, 0, none⟩)), (Value.int .i64 compact), (Value.int .i64 rev), (Value.map (some mb))], cl cb 244 [(Value.int .u32 n)], mp K2 mb m] (fun v__ post__ => v__ = (Value.tuple #[]) ∧ post__ = [cl hb 150 [(Value.pointer (some ⟨cb, 0, none⟩)), (Value.int .i64 compact), (Value.int .i64 rev), (Value.map (some mb))], cl cb 244 [(Value.int .u32 (hstep compact rev ks n x))], mp K2 mb m]) := by
  refine Tri.into (n := 77) (al := [(Value.pointer (some ⟨hb, 0, none⟩)), kv, vv]) Try.func69 rfl Try.ntmps69 rfl rfl fun w F H => ?_
  replace H : Holds w (ro R :: cl hb 150 [(Value.pointer (some ⟨cb, 0, none⟩)), (Value.int .i64 compact), (Value.int .i64 rev), (Value.map (some mb))] :: cl cb 244 [(Value.int .u32 n)] :: mp K2 mb m :: F) := H
  refine C_seq (fun K1_ hK1_ => ?_)
  refine C_reg ?_
  refine S_list (T_val (v := kv) (x_move rfl) ?_)
  refine S_list (T_callW (al := [kv]) rfl rfl cb93 (Calls.into (n := 6) (al := [kv]) Try.func93 rfl Try.ntmps93 rfl rfl ?_))
  refine C_seq (fun K2_ hK2_ => ?_)
  refine C_reg ?_
  refine S_list (T_alloc z146 H ?_)
  intro b3_ w4_ S6_ H5_
  replace H5_ : Holds w4_ (cl b3_ 146 [(Value.int .i64 0), (Value.int .i64 0)] :: ro R :: cl hb 150 [(Value.pointer (some ⟨cb, 0, none⟩)), (Value.int .i64 compact), (Value.int .i64 rev), (Value.map (some mb))] :: cl cb 244 [(Value.int .u32 n)] :: mp K2 mb m :: F) := H5_
  have S7_ := Same.trans (Same.refl w) S6_
  refine wpList_nil ?_
  refine (X_then (hK2_ _ _ ?_))
  clear hK2_
  refine C_seq (fun K8_ hK8_ => ?_)
  refine C_reg ?_
  refine S_list (T_val (v := kv) (x_move rfl) ?_)
  have H10_ : Holds w4_ (ro R :: cl b3_ 146 [(Value.int .i64 0), (Value.int .i64 0)] :: cl hb 150 [(Value.pointer (some ⟨cb, 0, none⟩)), (Value.int .i64 compact), (Value.int .i64 rev), (Value.map (some mb))] :: cl cb 244 [(Value.int .u32 n)] :: mp K2 mb m :: F) := (Holds.bring H5_ 1 rfl)
  refine S_list (T_call (al := [kv]) (pre := []) (F := cl b3_ 146 [(Value.int .i64 0), (Value.int .i64 0)] :: cl hb 150 [(Value.pointer (some ⟨cb, 0, none⟩)), (Value.int .i64 compact), (Value.int .i64 rev), (Value.map (some mb))] :: cl cb 244 [(Value.int .u32 n)] :: mp K2 mb m :: F) rfl rfl cb95 (hBack R kv x.rev_Main x.rev_Sub x.gone (RS.set_ hk (by first | rfl | (simp [RW.cells, ZR.cells, RV.cells, MR.cells]; done)) (by first | rfl | omega | (simp; done) | (simp; omega))) (by first | assumption | omega) (by first | assumption | omega) (by first | assumption | omega) (by first | assumption | omega)) H10_ ?_)
  rintro v9_ p14_ w11_ ⟨rfl, rfl⟩ S13_ H12_
  replace H12_ : Holds w11_ (ro R :: cl b3_ 146 [(Value.int .i64 0), (Value.int .i64 0)] :: cl hb 150 [(Value.pointer (some ⟨cb, 0, none⟩)), (Value.int .i64 compact), (Value.int .i64 rev), (Value.map (some mb))] :: cl cb 244 [(Value.int .u32 n)] :: mp K2 mb m :: F) := H12_
  have S15_ := Same.trans S7_ S13_
  refine S_list (T_val (v := (Value.agg #[(Value.int .i64 x.rev_Main), (Value.int .i64 x.rev_Sub)])) (by kernel_rfl) ?_)
  refine S_list0 (T_storeN (vs := [(Value.int .i64 x.rev_Main), (Value.int .i64 x.rev_Sub)]) rfl rfl z146 rfl (by simp [Value.oneCell']) H12_ 1 rfl (Nat.le_of_ble_eq_true (by rfl)) ?_)
  intro w16_ S18_ H17_
  replace H17_ : Holds w16_ (ro R :: cl b3_ 146 [(Value.int .i64 x.rev_Main), (Value.int .i64 x.rev_Sub)] :: cl hb 150 [(Value.pointer (some ⟨cb, 0, none⟩)), (Value.int .i64 compact), (Value.int .i64 rev), (Value.map (some mb))] :: cl cb 244 [(Value.int .u32 n)] :: mp K2 mb m :: F) := H17_
  have S19_ := Same.trans S15_ S18_
  refine wpList_nil ?_
  refine (X_then (hK8_ _ _ ?_))
  clear hK8_
  refine C_ret ?_
  refine R_any (v := (Value.agg #[(Value.int .i64 x.rev_Main), (Value.int .i64 x.rev_Sub)])) (run_results1 rfl ⟨_, rfl, load_resN Try.underlying146 rfl z146 rfl (vs := [(Value.int .i64 x.rev_Main), (Value.int .i64 x.rev_Sub)]) (Holds.cl_cells H17_ 1 rfl 0 rfl)⟩) ⟨_, rfl, ?_⟩
  refine S_list (T_alloc z146 H17_ ?_)
  intro b20_ w21_ S23_ H22_
  replace H22_ : Holds w21_ (cl b20_ 146 [(Value.int .i64 0), (Value.int .i64 0)] :: ro R :: cl b3_ 146 [(Value.int .i64 x.rev_Main), (Value.int .i64 x.rev_Sub)] :: cl hb 150 [(Value.pointer (some ⟨cb, 0, none⟩)), (Value.int .i64 compact), (Value.int .i64 rev), (Value.map (some mb))] :: cl cb 244 [(Value.int .u32 n)] :: mp K2 mb m :: F) := H22_
  have S24_ := Same.trans S19_ S23_
  refine S_list0 (T_storeN (vs := [(Value.int .i64 x.rev_Main), (Value.int .i64 x.rev_Sub)]) rfl rfl z146 rfl (by simp [Value.oneCell']) H22_ 0 rfl (Nat.le_of_ble_eq_true (by rfl)) ?_)
  intro w25_ S27_ H26_
  replace H26_ : Holds w25_ (cl b20_ 146 [(Value.int .i64 x.rev_Main), (Value.int .i64 x.rev_Sub)] :: ro R :: cl b3_ 146 [(Value.int .i64 x.rev_Main), (Value.int .i64 x.rev_Sub)] :: cl hb 150 [(Value.pointer (some ⟨cb, 0, none⟩)), (Value.int .i64 compact), (Value.int .i64 rev), (Value.map (some mb))] :: cl cb 244 [(Value.int .u32 n)] :: mp K2 mb m :: F) := H26_
  have S28_ := Same.trans S24_ S27_
  refine wpList_nil ?_
  refine (X_then (hK1_ _ _ ?_))
  clear hK1_
  refine C_seq (fun K29_ hK29_ => ?_)
  refine C_reg ?_
  refine S_list (T_val (v := (Value.pointer (some ⟨hb, 0, none⟩))) (x_move rfl) ?_)
  refine S_list (T_val (v := (Value.pointer (some ⟨hb, 0, none⟩))) (by kernel_rfl) ?_)
  refine S_list (T_val (v := (Value.pointer (some ⟨hb, 2, none⟩))) (by kernel_rfl) ?_)
  refine S_list (T_val (v := (Value.int .i64 rev)) (x_load1 rfl Try.underlying2 rfl ((Holds.rd H26_ 3 rfl) 2 (Value.int .i64 rev) rfl)) ?_)
  refine S_list (T_val (v := (Value.int .i64 (rev + 1))) (x_bin rfl rfl (ib_add (IntWalk.i64_in _ (by omega)))) ?_)
  refine S_list (T_val (v := (Value.agg #[(Value.int .i64 (rev + 1)), (Value.int .i64 0)])) (by kernel_rfl) ?_)
  refine S_list (T_alloc z146 H26_ ?_)
  intro b30_ w31_ S33_ H32_
  replace H32_ : Holds w31_ (cl b30_ 146 [(Value.int .i64 0), (Value.int .i64 0)] :: cl b20_ 146 [(Value.int .i64 x.rev_Main), (Value.int .i64 x.rev_Sub)] :: ro R :: cl b3_ 146 [(Value.int .i64 x.rev_Main), (Value.int .i64 x.rev_Sub)] :: cl hb 150 [(Value.pointer (some ⟨cb, 0, none⟩)), (Value.int .i64 compact), (Value.int .i64 rev), (Value.map (some mb))] :: cl cb 244 [(Value.int .u32 n)] :: mp K2 mb m :: F) := H32_
  have S34_ := Same.trans S28_ S33_
  refine S_list0 (T_storeN (vs := [(Value.int .i64 (rev + 1)), (Value.int .i64 0)]) rfl rfl z146 rfl (by simp [Value.oneCell']) H32_ 0 rfl (Nat.le_of_ble_eq_true (by rfl)) ?_)
  intro w35_ S37_ H36_
  replace H36_ : Holds w35_ (cl b30_ 146 [(Value.int .i64 (rev + 1)), (Value.int .i64 0)] :: cl b20_ 146 [(Value.int .i64 x.rev_Main), (Value.int .i64 x.rev_Sub)] :: ro R :: cl b3_ 146 [(Value.int .i64 x.rev_Main), (Value.int .i64 x.rev_Sub)] :: cl hb 150 [(Value.pointer (some ⟨cb, 0, none⟩)), (Value.int .i64 compact), (Value.int .i64 rev), (Value.map (some mb))] :: cl cb 244 [(Value.int .u32 n)] :: mp K2 mb m :: F) := H36_
  have S38_ := Same.trans S34_ S37_
  refine wpList_nil ?_
  refine (X_then (hK29_ _ _ ?_))
  clear hK29_
  refine C_seq (fun K39_ hK39_ => ?_)
  refine C_seq (fun K40_ hK40_ => ?_)
  refine C_reg ?_
  refine S_list (T_val (v := (Value.agg #[(Value.int .i64 (rev + 1)), (Value.int .i64 0)])) (x_loadN (vs := [(Value.int .i64 (rev + 1)), (Value.int .i64 0)]) rfl Try.underlying146 rfl z146 rfl (Rd.cells (Holds.rd H36_ 0 rfl) 0 rfl)) ?_)
  refine S_list (T_val (v := (Value.agg #[(Value.int .i64 x.rev_Main), (Value.int .i64 x.rev_Sub)])) (x_loadN (vs := [(Value.int .i64 x.rev_Main), (Value.int .i64 x.rev_Sub)]) rfl Try.underlying146 rfl z146 rfl (Rd.cells (Holds.rd H36_ 1 rfl) 0 rfl)) ?_)
  have H42_ : Holds w35_ (ro R :: cl b30_ 146 [(Value.int .i64 (rev + 1)), (Value.int .i64 0)] :: cl b20_ 146 [(Value.int .i64 x.rev_Main), (Value.int .i64 x.rev_Sub)] :: cl b3_ 146 [(Value.int .i64 x.rev_Main), (Value.int .i64 x.rev_Sub)] :: cl hb 150 [(Value.pointer (some ⟨cb, 0, none⟩)), (Value.int .i64 compact), (Value.int .i64 rev), (Value.map (some mb))] :: cl cb 244 [(Value.int .u32 n)] :: mp K2 mb m :: F) := (Holds.bring H36_ 2 rfl)
  refine S_list (T_call (al := [(Value.agg #[(Value.int .i64 (rev + 1)), (Value.int .i64 0)]), (Value.agg #[(Value.int .i64 x.rev_Main), (Value.int .i64 x.rev_Sub)])]) (pre := []) (F := cl b30_ 146 [(Value.int .i64 (rev + 1)), (Value.int .i64 0)] :: cl b20_ 146 [(Value.int .i64 x.rev_Main), (Value.int .i64 x.rev_Sub)] :: cl b3_ 146 [(Value.int .i64 x.rev_Main), (Value.int .i64 x.rev_Sub)] :: cl hb 150 [(Value.pointer (some ⟨cb, 0, none⟩)), (Value.int .i64 compact), (Value.int .i64 rev), (Value.map (some mb))] :: cl cb 244 [(Value.int .u32 n)] :: mp K2 mb m :: F) rfl rfl cb94 (hGT R (rev + 1) 0 x.rev_Main x.rev_Sub) H42_ ?_)
  rintro v41_ p46_ w43_ ⟨rfl, rfl⟩ S45_ H44_
  replace H44_ : Holds w43_ (ro R :: cl b30_ 146 [(Value.int .i64 (rev + 1)), (Value.int .i64 0)] :: cl b20_ 146 [(Value.int .i64 x.rev_Main), (Value.int .i64 x.rev_Sub)] :: cl b3_ 146 [(Value.int .i64 x.rev_Main), (Value.int .i64 x.rev_Sub)] :: cl hb 150 [(Value.pointer (some ⟨cb, 0, none⟩)), (Value.int .i64 compact), (Value.int .i64 rev), (Value.map (some mb))] :: cl cb 244 [(Value.int .u32 n)] :: mp K2 mb m :: F) := H44_
  have S47_ := Same.trans S38_ S45_
  refine S_list (T_val (v := (Value.bool (!(gt (rev + 1) 0 x.rev_Main x.rev_Sub)))) (x_not rfl) ?_)
  refine wpList_nil ?_
  refine (X_then (hK40_ _ _ ?_))
  clear hK40_
  refine C_cond (b := !(gt (rev + 1) 0 x.rev_Main x.rev_Sub)) rfl (fun c48_t => ?_) (fun c48_f => ?_)
  · skip
    refine C_ret (X_thenR ?_)
    refine R_0r rfl ?_
    have H49_ : Holds w43_ (ro R :: cl b30_ 146 [(Value.int .i64 (rev + 1)), (Value.int .i64 0)] :: cl b20_ 146 [(Value.int .i64 x.rev_Main), (Value.int .i64 x.rev_Sub)] :: cl b3_ 146 [(Value.int .i64 x.rev_Main), (Value.int .i64 x.rev_Sub)] :: cl hb 150 [(Value.pointer (some ⟨cb, 0, none⟩)), (Value.int .i64 compact), (Value.int .i64 rev), (Value.map (some mb))] :: cl cb 244 [(Value.int .u32 (hstep compact rev ks n x))] :: mp K2 mb m :: F) := cast1 (P := fun (c__ : List Value) => Holds w43_ (ro R :: cl b30_ 146 [(Value.int .i64 (rev + 1)), (Value.int .i64 0)] :: cl b20_ 146 [(Value.int .i64 x.rev_Main), (Value.int .i64 x.rev_Sub)] :: cl b3_ 146 [(Value.int .i64 x.rev_Main), (Value.int .i64 x.rev_Sub)] :: cl hb 150 [(Value.pointer (some ⟨cb, 0, none⟩)), (Value.int .i64 compact), (Value.int .i64 rev), (Value.map (some mb))] :: cl cb 244 c__ :: mp K2 mb m :: F)) ((lcons (congrArg (Value.int .u32) ((hstep_no (fun h__ => (show ¬ x.rev_Main ≤ rev from (by have h_ : gt (rev + 1) 0 x.rev_Main x.rev_Sub = false := (by simpa using c48_t); rw [gt_up hs0] at h_; exact of_decide_eq_false h_)) h__.1)) : n = hstep compact rev ks n x)) rfl) : [(Value.int .u32 n)] = [(Value.int .u32 (hstep compact rev ks n x))]) H44_
    have H50_ : Holds w43_ (ro R :: cl hb 150 [(Value.pointer (some ⟨cb, 0, none⟩)), (Value.int .i64 compact), (Value.int .i64 rev), (Value.map (some mb))] :: cl cb 244 [(Value.int .u32 (hstep compact rev ks n x))] :: mp K2 mb m :: F) := (Holds.erase (Holds.erase (Holds.erase (Holds.bring (Holds.bring (Holds.bring (Holds.bring H49_ 6 rfl) 6 rfl) 6 rfl) 3 rfl) 4) 4) 4)
    exact ⟨_, [cl hb 150 [(Value.pointer (some ⟨cb, 0, none⟩)), (Value.int .i64 compact), (Value.int .i64 rev), (Value.map (some mb))], cl cb 244 [(Value.int .u32 (hstep compact rev ks n x))], mp K2 mb m], rfl, ⟨rfl, rfl⟩, S47_, H50_⟩
  · skip
    refine C_skip (X_then (hK39_ _ _ ?_))
    clear hK39_
    refine C_seq (fun K51_ hK51_ => ?_)
    refine C_reg ?_
    refine S_list (T_val (v := kv) (x_move rfl) ?_)
    refine S_list (T_call (al := [kv]) (pre := []) (F := cl b30_ 146 [(Value.int .i64 (rev + 1)), (Value.int .i64 0)] :: cl b20_ 146 [(Value.int .i64 x.rev_Main), (Value.int .i64 x.rev_Sub)] :: cl b3_ 146 [(Value.int .i64 x.rev_Main), (Value.int .i64 x.rev_Sub)] :: cl hb 150 [(Value.pointer (some ⟨cb, 0, none⟩)), (Value.int .i64 compact), (Value.int .i64 rev), (Value.map (some mb))] :: cl cb 244 [(Value.int .u32 n)] :: mp K2 mb m :: F) rfl rfl cb95 (hBack R kv x.rev_Main x.rev_Sub x.gone (RS.set_ hk (by first | rfl | (simp [RW.cells, ZR.cells, RV.cells, MR.cells]; done)) (by first | rfl | omega | (simp; done) | (simp; omega))) (by first | assumption | omega) (by first | assumption | omega) (by first | assumption | omega) (by first | assumption | omega)) H44_ ?_)
    rintro v52_ p56_ w53_ ⟨rfl, rfl⟩ S55_ H54_
    replace H54_ : Holds w53_ (ro R :: cl b30_ 146 [(Value.int .i64 (rev + 1)), (Value.int .i64 0)] :: cl b20_ 146 [(Value.int .i64 x.rev_Main), (Value.int .i64 x.rev_Sub)] :: cl b3_ 146 [(Value.int .i64 x.rev_Main), (Value.int .i64 x.rev_Sub)] :: cl hb 150 [(Value.pointer (some ⟨cb, 0, none⟩)), (Value.int .i64 compact), (Value.int .i64 rev), (Value.map (some mb))] :: cl cb 244 [(Value.int .u32 n)] :: mp K2 mb m :: F) := H54_
    have S57_ := Same.trans S47_ S55_
    refine S_list (T_val (v := (Value.bool x.gone)) (by kernel_rfl) ?_)
    refine S_list (T_val (v := (Value.bool x.gone)) (x_assign rfl) ?_)
    refine wpList_nil ?_
    refine (X_then (hK51_ _ _ ?_))
    clear hK51_
    refine C_seq (fun K58_ hK58_ => ?_)
    refine C_reg ?_
    refine S_list (T_val (v := (Value.pointer (some ⟨hb, 0, none⟩))) (x_move rfl) ?_)
    refine S_list (T_val (v := (Value.pointer (some ⟨hb, 0, none⟩))) (by kernel_rfl) ?_)
    refine S_list (T_val (v := (Value.pointer (some ⟨hb, 1, none⟩))) (by kernel_rfl) ?_)
    refine S_list (T_val (v := (Value.int .i64 compact)) (x_load1 rfl Try.underlying2 rfl ((Holds.rd H54_ 4 rfl) 1 (Value.int .i64 compact) rfl)) ?_)
    refine S_list (T_val (v := (Value.int .i64 (compact + 1))) (x_bin rfl rfl (ib_add (IntWalk.i64_in _ (by omega)))) ?_)
    refine S_list (T_val (v := (Value.agg #[(Value.int .i64 (compact + 1)), (Value.int .i64 0)])) (by kernel_rfl) ?_)
    refine S_list (T_alloc z146 H54_ ?_)
    intro b59_ w60_ S62_ H61_
    replace H61_ : Holds w60_ (cl b59_ 146 [(Value.int .i64 0), (Value.int .i64 0)] :: ro R :: cl b30_ 146 [(Value.int .i64 (rev + 1)), (Value.int .i64 0)] :: cl b20_ 146 [(Value.int .i64 x.rev_Main), (Value.int .i64 x.rev_Sub)] :: cl b3_ 146 [(Value.int .i64 x.rev_Main), (Value.int .i64 x.rev_Sub)] :: cl hb 150 [(Value.pointer (some ⟨cb, 0, none⟩)), (Value.int .i64 compact), (Value.int .i64 rev), (Value.map (some mb))] :: cl cb 244 [(Value.int .u32 n)] :: mp K2 mb m :: F) := H61_
    have S63_ := Same.trans S57_ S62_
    refine S_list0 (T_storeN (vs := [(Value.int .i64 (compact + 1)), (Value.int .i64 0)]) rfl rfl z146 rfl (by simp [Value.oneCell']) H61_ 0 rfl (Nat.le_of_ble_eq_true (by rfl)) ?_)
    intro w64_ S66_ H65_
    replace H65_ : Holds w64_ (cl b59_ 146 [(Value.int .i64 (compact + 1)), (Value.int .i64 0)] :: ro R :: cl b30_ 146 [(Value.int .i64 (rev + 1)), (Value.int .i64 0)] :: cl b20_ 146 [(Value.int .i64 x.rev_Main), (Value.int .i64 x.rev_Sub)] :: cl b3_ 146 [(Value.int .i64 x.rev_Main), (Value.int .i64 x.rev_Sub)] :: cl hb 150 [(Value.pointer (some ⟨cb, 0, none⟩)), (Value.int .i64 compact), (Value.int .i64 rev), (Value.map (some mb))] :: cl cb 244 [(Value.int .u32 n)] :: mp K2 mb m :: F) := H65_
    have S67_ := Same.trans S63_ S66_
    refine wpList_nil ?_
    refine (X_then (hK58_ _ _ ?_))
    clear hK58_
    refine C_cut (fun a__ w1__ => ∃ h : Env, a__ = mkA 77 (upd (upd (upd (upd (upd h 0 (Value.pointer (some ⟨hb, 0, none⟩))) 1 kv) 2 vv) 6 (Value.pointer (some ⟨b20_, 0, none⟩))) 8 (Value.bool x.gone)) [] ∧ Holds w1__ (cl b59_ 146 [(Value.int .i64 (compact + 1)), (Value.int .i64 0)] :: ro R :: cl b30_ 146 [(Value.int .i64 (rev + 1)), (Value.int .i64 0)] :: cl b20_ 146 [(Value.int .i64 x.rev_Main), (Value.int .i64 x.rev_Sub)] :: cl b3_ 146 [(Value.int .i64 x.rev_Main), (Value.int .i64 x.rev_Sub)] :: cl hb 150 [(Value.pointer (some ⟨cb, 0, none⟩)), (Value.int .i64 compact), (Value.int .i64 rev), (Value.map (some mb))] :: cl cb 244 [(Value.int .u32 n)] :: mp K2 mb m :: F) ∧ Same w w1__ ∧ (compact < x.rev_Main ∨ ks = [] ∨ (x.rev_Main, x.rev_Sub) ∈ ks)) ?_ ?_
    · refine C_seq (fun K71_ hK71_ => ?_)
      refine C_reg ?_
      refine S_list (T_val (v := (Value.agg #[(Value.int .i64 (compact + 1)), (Value.int .i64 0)])) (x_loadN (vs := [(Value.int .i64 (compact + 1)), (Value.int .i64 0)]) rfl Try.underlying146 rfl z146 rfl (Rd.cells (Holds.rd H65_ 0 rfl) 0 rfl)) ?_)
      refine S_list (T_val (v := (Value.agg #[(Value.int .i64 x.rev_Main), (Value.int .i64 x.rev_Sub)])) (x_loadN (vs := [(Value.int .i64 x.rev_Main), (Value.int .i64 x.rev_Sub)]) rfl Try.underlying146 rfl z146 rfl (Rd.cells (Holds.rd H65_ 3 rfl) 0 rfl)) ?_)
      have H73_ : Holds w64_ (ro R :: cl b59_ 146 [(Value.int .i64 (compact + 1)), (Value.int .i64 0)] :: cl b30_ 146 [(Value.int .i64 (rev + 1)), (Value.int .i64 0)] :: cl b20_ 146 [(Value.int .i64 x.rev_Main), (Value.int .i64 x.rev_Sub)] :: cl b3_ 146 [(Value.int .i64 x.rev_Main), (Value.int .i64 x.rev_Sub)] :: cl hb 150 [(Value.pointer (some ⟨cb, 0, none⟩)), (Value.int .i64 compact), (Value.int .i64 rev), (Value.map (some mb))] :: cl cb 244 [(Value.int .u32 n)] :: mp K2 mb m :: F) := (Holds.bring H65_ 1 rfl)
      refine S_list (T_call (al := [(Value.agg #[(Value.int .i64 (compact + 1)), (Value.int .i64 0)]), (Value.agg #[(Value.int .i64 x.rev_Main), (Value.int .i64 x.rev_Sub)])]) (pre := []) (F := cl b59_ 146 [(Value.int .i64 (compact + 1)), (Value.int .i64 0)] :: cl b30_ 146 [(Value.int .i64 (rev + 1)), (Value.int .i64 0)] :: cl b20_ 146 [(Value.int .i64 x.rev_Main), (Value.int .i64 x.rev_Sub)] :: cl b3_ 146 [(Value.int .i64 x.rev_Main), (Value.int .i64 x.rev_Sub)] :: cl hb 150 [(Value.pointer (some ⟨cb, 0, none⟩)), (Value.int .i64 compact), (Value.int .i64 rev), (Value.map (some mb))] :: cl cb 244 [(Value.int .u32 n)] :: mp K2 mb m :: F) rfl rfl cb94 (hGT R (compact + 1) 0 x.rev_Main x.rev_Sub) H73_ ?_)
      rintro v72_ p77_ w74_ ⟨rfl, rfl⟩ S76_ H75_
      replace H75_ : Holds w74_ (ro R :: cl b59_ 146 [(Value.int .i64 (compact + 1)), (Value.int .i64 0)] :: cl b30_ 146 [(Value.int .i64 (rev + 1)), (Value.int .i64 0)] :: cl b20_ 146 [(Value.int .i64 x.rev_Main), (Value.int .i64 x.rev_Sub)] :: cl b3_ 146 [(Value.int .i64 x.rev_Main), (Value.int .i64 x.rev_Sub)] :: cl hb 150 [(Value.pointer (some ⟨cb, 0, none⟩)), (Value.int .i64 compact), (Value.int .i64 rev), (Value.map (some mb))] :: cl cb 244 [(Value.int .u32 n)] :: mp K2 mb m :: F) := H75_
      have S78_ := Same.trans S67_ S76_
      refine S_list (T_val (v := (Value.bool (gt (compact + 1) 0 x.rev_Main x.rev_Sub))) (x_move rfl) ?_)
      rcases Bool.eq_false_or_eq_true (gt (compact + 1) 0 x.rev_Main x.rev_Sub) with c79_t | c79_f
      · skip
        refine S_yes (j := 3) (dj := 36) (b := true) rfl rfl (congrArg Value.bool c79_t) (T_val (v := (Value.pointer (some ⟨hb, 0, none⟩))) (x_move rfl) ?_)
        refine S_yes (j := 3) (dj := 36) (b := true) rfl rfl (congrArg Value.bool c79_t) (T_val (v := (Value.pointer (some ⟨hb, 0, none⟩))) (by kernel_rfl) ?_)
        refine S_yes (j := 3) (dj := 36) (b := true) rfl rfl (congrArg Value.bool c79_t) (T_val (v := (Value.pointer (some ⟨hb, 3, none⟩))) (by kernel_rfl) ?_)
        refine S_yes (j := 3) (dj := 36) (b := true) rfl rfl (congrArg Value.bool c79_t) (T_val (v := (Value.map (some mb))) (x_load1 rfl Try.underlying145 rfl ((Holds.rd H75_ 5 rfl) 3 (Value.map (some mb)) rfl)) ?_)
        refine S_yes (j := 3) (dj := 36) (b := true) rfl rfl (congrArg Value.bool c79_t) (T_val (v := (Value.int .i64 (List.length m : Int))) (x_lenMp (K := K2) rfl Try.underlying145 (Holds.mprd H75_ 7 rfl)) ?_)
        refine S_yes (j := 3) (dj := 36) (b := true) rfl rfl (congrArg Value.bool c79_t) (T_val (v := (Value.bool (decide (0 < (List.length m : Int))))) (x_bin rfl rfl rfl) ?_)
        refine S_list (T_pickT (v := (Value.bool (decide (0 < (List.length m : Int))))) (congrArg Value.bool c79_t) rfl ?_)
        refine wpList_nil ?_
        refine (X_then (hK71_ _ _ ?_))
        clear hK71_
        refine C_cond (b := decide (0 < (List.length m : Int))) rfl (fun c80_t => ?_) (fun c80_f => ?_)
        · have c80_tp : 0 < (List.length m : Int) := of_decide_eq_true c80_t
          refine C_seq (fun K81_ hK81_ => ?_)
          refine A_start (S := fun w => Rd b20_ [(Value.int .i64 x.rev_Main), (Value.int .i64 x.rev_Sub)] w ∧ Rd hb [(Value.pointer (some ⟨cb, 0, none⟩)), (Value.int .i64 compact), (Value.int .i64 rev), (Value.map (some mb))] w ∧ Rd cb [(Value.int .u32 n)] w ∧ MpRd K2 mb m w ∧ Sub R (hp w)) (N := 12) foll rfl rfl ?_
          have H82_ : Holds w74_.drew (ro R :: cl b59_ 146 [(Value.int .i64 (compact + 1)), (Value.int .i64 0)] :: cl b30_ 146 [(Value.int .i64 (rev + 1)), (Value.int .i64 0)] :: cl b20_ 146 [(Value.int .i64 x.rev_Main), (Value.int .i64 x.rev_Sub)] :: cl b3_ 146 [(Value.int .i64 x.rev_Main), (Value.int .i64 x.rev_Sub)] :: cl hb 150 [(Value.pointer (some ⟨cb, 0, none⟩)), (Value.int .i64 compact), (Value.int .i64 rev), (Value.map (some mb))] :: cl cb 244 [(Value.int .u32 n)] :: mp K2 mb m :: F) := H75_
          have hq83_ := And.intro (Holds.rd H82_ 3 rfl) (And.intro (Holds.rd H82_ 5 rfl) (And.intro (Holds.rd H82_ 6 rfl) (And.intro (Holds.mprd H82_ 7 rfl) ((Holds.ro_at H82_ 0 rfl)))))
          refine A_tk 0 (v := (Value.pointer (some ⟨hb, 0, none⟩))) rfl (by kernel_rfl) (fun w hS => x_move rfl) hq83_ ?_
          refine A_tk 1 (v := (Value.pointer (some ⟨hb, 0, none⟩))) rfl (by kernel_rfl) (fun w hS => by kernel_rfl) hq83_ ?_
          refine A_tk 2 (v := (Value.pointer (some ⟨hb, 3, none⟩))) rfl (by kernel_rfl) (fun w hS => by kernel_rfl) hq83_ ?_
          refine A_tk 3 (v := (Value.map (some mb))) rfl (by kernel_rfl) (fun w hS => x_load1 rfl Try.underlying145 rfl (hS.2.1 3 (Value.map (some mb)) rfl)) hq83_ ?_
          refine A_tk 4 (v := (Value.agg #[(Value.int .i64 x.rev_Main), (Value.int .i64 x.rev_Sub)])) rfl (by kernel_rfl) (fun w hS => x_loadN (vs := [(Value.int .i64 x.rev_Main), (Value.int .i64 x.rev_Sub)]) rfl Try.underlying146 rfl z146 rfl (Rd.cells hS.1 0 rfl)) hq83_ ?_
          refine A_tk 5 (v := (Value.tuple #[(Value.agg #[]), (Value.bool true)])) rfl (by kernel_rfl) (fun w hS => x_lookup (K := K2) (a := (x.rev_Main, x.rev_Sub)) (m := m) rfl rfl (KeyKind.pair (t := 2) ⟨Try.underlying146, by kernel_rfl, by kernel_rfl, by kernel_rfl, rfl, rfl, rfl, rfl, Try.underlying2⟩) Try.underlying145 z147 hS.2.2.2.1 (by rw [hmg]; rfl)) hq83_ ?_
          refine A_tk 6 (v := (Value.tuple #[(Value.agg #[]), (Value.bool true)])) rfl (by kernel_rfl) (fun w hS => x_move rfl) hq83_ ?_
          refine A_tk 7 (v := (Value.agg #[])) rfl (by kernel_rfl) (fun w hS => by kernel_rfl) hq83_ ?_
          refine A_tk 8 (v := (Value.bool true)) rfl (by kernel_rfl) (fun w hS => by kernel_rfl) hq83_ ?_
          refine A_ready (i := 9) (rs := []) (by kernel_rfl) ?_
          refine AllR.cons ?_ AllR.nil
          refine A_op (ls' := #[true, true, true, true, true, true, true, true, true, true, false, false]) rfl (by kernel_rfl) (T_alloc z147 H82_ ?_)
          intro b84_ w85_ S87_ H86_
          replace H86_ : Holds w85_ (cl b84_ 147 [] :: ro R :: cl b59_ 146 [(Value.int .i64 (compact + 1)), (Value.int .i64 0)] :: cl b30_ 146 [(Value.int .i64 (rev + 1)), (Value.int .i64 0)] :: cl b20_ 146 [(Value.int .i64 x.rev_Main), (Value.int .i64 x.rev_Sub)] :: cl b3_ 146 [(Value.int .i64 x.rev_Main), (Value.int .i64 x.rev_Sub)] :: cl hb 150 [(Value.pointer (some ⟨cb, 0, none⟩)), (Value.int .i64 compact), (Value.int .i64 rev), (Value.map (some mb))] :: cl cb 244 [(Value.int .u32 n)] :: mp K2 mb m :: F) := H86_
          have S88_ := Same.trans (Same.trans S78_ (Same.drew _)) S87_
          refine ⟨⟨Holds.rd H86_ 4 rfl, Holds.rd H86_ 6 rfl, Holds.rd H86_ 7 rfl, Holds.mprd H86_ 8 rfl, (Holds.ro_at H86_ 1 rfl)⟩, ?_⟩
          refine A_ready (i := 10) (rs := []) (by kernel_rfl) ?_
          refine AllR.cons ?_ AllR.nil
          refine A_op0 (ls' := #[true, true, true, true, true, true, true, true, true, true, true, false]) rfl (by kernel_rfl) (T_storeN (vs := []) rfl rfl z147 rfl (by simp [Value.oneCell']) H86_ 0 rfl (Nat.le_of_ble_eq_true (by rfl)) ?_)
          intro w89_ S91_ H90_
          replace H90_ : Holds w89_ (cl b84_ 147 [] :: ro R :: cl b59_ 146 [(Value.int .i64 (compact + 1)), (Value.int .i64 0)] :: cl b30_ 146 [(Value.int .i64 (rev + 1)), (Value.int .i64 0)] :: cl b20_ 146 [(Value.int .i64 x.rev_Main), (Value.int .i64 x.rev_Sub)] :: cl b3_ 146 [(Value.int .i64 x.rev_Main), (Value.int .i64 x.rev_Sub)] :: cl hb 150 [(Value.pointer (some ⟨cb, 0, none⟩)), (Value.int .i64 compact), (Value.int .i64 rev), (Value.map (some mb))] :: cl cb 244 [(Value.int .u32 n)] :: mp K2 mb m :: F) := H90_
          have S92_ := Same.trans S88_ S91_
          refine ⟨⟨Holds.rd H90_ 4 rfl, Holds.rd H90_ 6 rfl, Holds.rd H90_ 7 rfl, Holds.mprd H90_ 8 rfl, (Holds.ro_at H90_ 1 rfl)⟩, ?_⟩
          have hq93_ := And.intro (Holds.rd H90_ 4 rfl) (And.intro (Holds.rd H90_ 6 rfl) (And.intro (Holds.rd H90_ 7 rfl) (And.intro (Holds.mprd H90_ 8 rfl) ((Holds.ro_at H90_ 1 rfl)))))
          refine A_tk 11 (v := (Value.bool true)) rfl (by kernel_rfl) (fun w hS => x_assign rfl) hq93_ ?_
          refine A_done (by kernel_rfl) ?_
          refine (X_then (hK81_ _ _ ?_))
          clear hK81_
          refine C_seq (fun K94_ hK94_ => ?_)
          refine C_reg ?_
          refine S_list (T_val (v := (Value.bool true)) (x_move rfl) ?_)
          refine S_list (T_val (v := (Value.bool false)) (x_cast (x_not (b := true) rfl) rfl) ?_)
          refine wpList_nil ?_
          refine (X_then (hK94_ _ _ ?_))
          clear hK94_
          refine C_condF rfl ?_
          refine C_skip (X_then ?_)
          have H95_ : Holds w89_ (cl b59_ 146 [(Value.int .i64 (compact + 1)), (Value.int .i64 0)] :: ro R :: cl b30_ 146 [(Value.int .i64 (rev + 1)), (Value.int .i64 0)] :: cl b20_ 146 [(Value.int .i64 x.rev_Main), (Value.int .i64 x.rev_Sub)] :: cl b3_ 146 [(Value.int .i64 x.rev_Main), (Value.int .i64 x.rev_Sub)] :: cl hb 150 [(Value.pointer (some ⟨cb, 0, none⟩)), (Value.int .i64 compact), (Value.int .i64 rev), (Value.map (some mb))] :: cl cb 244 [(Value.int .u32 n)] :: mp K2 mb m :: F) := (Holds.erase (Holds.bring (Holds.bring (Holds.bring (Holds.bring (Holds.bring (Holds.bring (Holds.bring (Holds.bring H90_ 8 rfl) 8 rfl) 8 rfl) 8 rfl) 8 rfl) 8 rfl) 7 rfl) 8 rfl) 8)
          exact ⟨_, congrArg (fun e => mkA 77 e []) (ch (ch (ch (ch (ch rfl rfl) rfl) rfl) rfl) rfl), H95_, S92_, (.inr (.inr (hmk.in_ hmg)))⟩
        · have c80_fp : ¬ (0 < (List.length m : Int)) := of_decide_eq_false c80_f
          refine C_skip (X_then ?_)
          have H96_ : Holds w74_ (cl b59_ 146 [(Value.int .i64 (compact + 1)), (Value.int .i64 0)] :: ro R :: cl b30_ 146 [(Value.int .i64 (rev + 1)), (Value.int .i64 0)] :: cl b20_ 146 [(Value.int .i64 x.rev_Main), (Value.int .i64 x.rev_Sub)] :: cl b3_ 146 [(Value.int .i64 x.rev_Main), (Value.int .i64 x.rev_Sub)] :: cl hb 150 [(Value.pointer (some ⟨cb, 0, none⟩)), (Value.int .i64 compact), (Value.int .i64 rev), (Value.map (some mb))] :: cl cb 244 [(Value.int .u32 n)] :: mp K2 mb m :: F) := (Holds.bring (Holds.bring (Holds.bring (Holds.bring (Holds.bring (Holds.bring (Holds.bring (Holds.bring H75_ 7 rfl) 7 rfl) 7 rfl) 7 rfl) 7 rfl) 7 rfl) 6 rfl) 7 rfl)
          exact ⟨_, congrArg (fun e => mkA 77 e []) (ch (ch (ch (ch (ch rfl rfl) rfl) rfl) rfl) rfl), H96_, S78_, (.inr (.inl (hmk.nil.1 (List.eq_nil_of_length_eq_zero (by omega)))))⟩
      · skip
        refine S_no (j := 3) (dj := 36) (b := false) rfl rfl (congrArg Value.bool c79_f) (by decide) ?_
        refine S_no (j := 3) (dj := 36) (b := false) rfl rfl (congrArg Value.bool c79_f) (by decide) ?_
        refine S_no (j := 3) (dj := 36) (b := false) rfl rfl (congrArg Value.bool c79_f) (by decide) ?_
        refine S_no (j := 3) (dj := 36) (b := false) rfl rfl (congrArg Value.bool c79_f) (by decide) ?_
        refine S_no (j := 3) (dj := 36) (b := false) rfl rfl (congrArg Value.bool c79_f) (by decide) ?_
        refine S_no (j := 3) (dj := 36) (b := false) rfl rfl (congrArg Value.bool c79_f) (by decide) ?_
        refine S_list (T_pickF (v := (Value.bool false)) (congrArg Value.bool c79_f) rfl ?_)
        refine wpList_nil ?_
        refine (X_then (hK71_ _ _ ?_))
        clear hK71_
        refine C_condF rfl ?_
        refine C_skip (X_then ?_)
        have H97_ : Holds w74_ (cl b59_ 146 [(Value.int .i64 (compact + 1)), (Value.int .i64 0)] :: ro R :: cl b30_ 146 [(Value.int .i64 (rev + 1)), (Value.int .i64 0)] :: cl b20_ 146 [(Value.int .i64 x.rev_Main), (Value.int .i64 x.rev_Sub)] :: cl b3_ 146 [(Value.int .i64 x.rev_Main), (Value.int .i64 x.rev_Sub)] :: cl hb 150 [(Value.pointer (some ⟨cb, 0, none⟩)), (Value.int .i64 compact), (Value.int .i64 rev), (Value.map (some mb))] :: cl cb 244 [(Value.int .u32 n)] :: mp K2 mb m :: F) := (Holds.bring (Holds.bring (Holds.bring (Holds.bring (Holds.bring (Holds.bring (Holds.bring (Holds.bring H75_ 7 rfl) 7 rfl) 7 rfl) 7 rfl) 7 rfl) 7 rfl) 6 rfl) 7 rfl)
        exact ⟨_, congrArg (fun e => mkA 77 e []) (ch (ch (ch (ch (ch rfl rfl) rfl) rfl) rfl) rfl), H97_, S78_, (.inl (by have h1__ : ¬ x.rev_Main ≤ compact := (by have h_ : gt (compact + 1) 0 x.rev_Main x.rev_Sub = false := c79_f; rw [gt_up hs0] at h_; exact of_decide_eq_false h_); omega))⟩
    · rintro _ w68_ ⟨h, rfl, H69_, S70_, hmid⟩
      refine C_seq (fun K98_ hK98_ => ?_)
      refine C_seq (fun K99_ hK99_ => ?_)
      refine A_start (S := fun w => Rd b20_ [(Value.int .i64 x.rev_Main), (Value.int .i64 x.rev_Sub)] w ∧ Rd hb [(Value.pointer (some ⟨cb, 0, none⟩)), (Value.int .i64 compact), (Value.int .i64 rev), (Value.map (some mb))] w ∧ Rd cb [(Value.int .u32 n)] w ∧ MpRd K2 mb m w ∧ Sub R (hp w)) (N := 10) foll rfl rfl ?_
      have H100_ : Holds w68_.drew (cl b59_ 146 [(Value.int .i64 (compact + 1)), (Value.int .i64 0)] :: ro R :: cl b30_ 146 [(Value.int .i64 (rev + 1)), (Value.int .i64 0)] :: cl b20_ 146 [(Value.int .i64 x.rev_Main), (Value.int .i64 x.rev_Sub)] :: cl b3_ 146 [(Value.int .i64 x.rev_Main), (Value.int .i64 x.rev_Sub)] :: cl hb 150 [(Value.pointer (some ⟨cb, 0, none⟩)), (Value.int .i64 compact), (Value.int .i64 rev), (Value.map (some mb))] :: cl cb 244 [(Value.int .u32 n)] :: mp K2 mb m :: F) := H69_
      have hq101_ := And.intro (Holds.rd H100_ 3 rfl) (And.intro (Holds.rd H100_ 5 rfl) (And.intro (Holds.rd H100_ 6 rfl) (And.intro (Holds.mprd H100_ 7 rfl) ((Holds.ro_at H100_ 1 rfl)))))
      refine A_tk 0 (v := (Value.pointer (some ⟨b20_, 0, none⟩))) rfl (by kernel_rfl) (fun w hS => by kernel_rfl) hq101_ ?_
      refine A_tk 1 (v := (Value.int .i64 x.rev_Main)) rfl (by kernel_rfl) (fun w hS => x_load1 rfl Try.underlying2 rfl (hS.1 0 (Value.int .i64 x.rev_Main) rfl)) hq101_ ?_
      refine A_tk 2 (v := (Value.pointer (some ⟨hb, 0, none⟩))) rfl (by kernel_rfl) (fun w hS => x_move rfl) hq101_ ?_
      refine A_tk 3 (v := (Value.pointer (some ⟨hb, 0, none⟩))) rfl (by kernel_rfl) (fun w hS => by kernel_rfl) hq101_ ?_
      refine A_tk 4 (v := (Value.pointer (some ⟨hb, 1, none⟩))) rfl (by kernel_rfl) (fun w hS => by kernel_rfl) hq101_ ?_
      refine A_tk 5 (v := (Value.int .i64 compact)) rfl (by kernel_rfl) (fun w hS => x_load1 rfl Try.underlying2 rfl (hS.2.1 1 (Value.int .i64 compact) rfl)) hq101_ ?_
      refine A_tk 6 (v := (Value.bool (decide (x.rev_Main = compact)))) rfl (by kernel_rfl) (fun w hS => x_bin rfl rfl rfl) hq101_ ?_
      refine A_tk 7 (v := (Value.bool (decide (x.rev_Main = compact)))) rfl (by kernel_rfl) (fun w hS => x_move rfl) hq101_ ?_
      rcases Bool.eq_false_or_eq_true (decide (x.rev_Main = compact)) with c102_t | c102_f
      · have c102_tp : x.rev_Main = compact := of_decide_eq_true c102_t
        refine A_tkY 8 (j := 7) (dj := 62) (b := true) (v := (Value.bool x.gone)) rfl (by kernel_rfl) rfl rfl (congrArg Value.bool c102_t) (fun w hS => x_move rfl) hq101_ ?_
        refine A_tk 9 (v := (Value.bool x.gone)) rfl (by kernel_rfl) (fun w hS => (x_pickT (congrArg Value.bool c102_t) rfl)) hq101_ ?_
        refine A_done (by kernel_rfl) ?_
        refine (X_then (hK99_ _ _ ?_))
        clear hK99_
        refine C_cond (b := x.gone) rfl (fun c103_t => ?_) (fun c103_f => ?_)
        · skip
          refine C_ret (X_thenR ?_)
          refine R_0r rfl ?_
          have H104_ : Holds w68_.drew (cl b59_ 146 [(Value.int .i64 (compact + 1)), (Value.int .i64 0)] :: ro R :: cl b30_ 146 [(Value.int .i64 (rev + 1)), (Value.int .i64 0)] :: cl b20_ 146 [(Value.int .i64 x.rev_Main), (Value.int .i64 x.rev_Sub)] :: cl b3_ 146 [(Value.int .i64 x.rev_Main), (Value.int .i64 x.rev_Sub)] :: cl hb 150 [(Value.pointer (some ⟨cb, 0, none⟩)), (Value.int .i64 compact), (Value.int .i64 rev), (Value.map (some mb))] :: cl cb 244 [(Value.int .u32 (hstep compact rev ks n x))] :: mp K2 mb m :: F) := cast1 (P := fun (c__ : List Value) => Holds w68_.drew (cl b59_ 146 [(Value.int .i64 (compact + 1)), (Value.int .i64 0)] :: ro R :: cl b30_ 146 [(Value.int .i64 (rev + 1)), (Value.int .i64 0)] :: cl b20_ 146 [(Value.int .i64 x.rev_Main), (Value.int .i64 x.rev_Sub)] :: cl b3_ 146 [(Value.int .i64 x.rev_Main), (Value.int .i64 x.rev_Sub)] :: cl hb 150 [(Value.pointer (some ⟨cb, 0, none⟩)), (Value.int .i64 compact), (Value.int .i64 rev), (Value.map (some mb))] :: cl cb 244 c__ :: mp K2 mb m :: F)) ((lcons (congrArg (Value.int .u32) ((hstep_no (fun h__ => h__.2.2 ⟨c102_tp, c103_t⟩)) : n = hstep compact rev ks n x)) rfl) : [(Value.int .u32 n)] = [(Value.int .u32 (hstep compact rev ks n x))]) H100_
          have H105_ : Holds w68_.drew (ro R :: cl hb 150 [(Value.pointer (some ⟨cb, 0, none⟩)), (Value.int .i64 compact), (Value.int .i64 rev), (Value.map (some mb))] :: cl cb 244 [(Value.int .u32 (hstep compact rev ks n x))] :: mp K2 mb m :: F) := (Holds.erase (Holds.erase (Holds.erase (Holds.erase (Holds.bring (Holds.bring (Holds.bring (Holds.bring H104_ 7 rfl) 7 rfl) 7 rfl) 4 rfl) 4) 4) 4) 4)
          exact ⟨_, [cl hb 150 [(Value.pointer (some ⟨cb, 0, none⟩)), (Value.int .i64 compact), (Value.int .i64 rev), (Value.map (some mb))], cl cb 244 [(Value.int .u32 (hstep compact rev ks n x))], mp K2 mb m], rfl, ⟨rfl, rfl⟩, (Same.trans S70_ (Same.drew _)), H105_⟩
        · skip
          refine C_skip (X_then (hK98_ _ _ ?_))
          clear hK98_
          refine C_seq (fun K106_ hK106_ => ?_)
          refine C_reg ?_
          refine S_list (T_val (v := (Value.pointer (some ⟨hb, 0, none⟩))) (x_move rfl) ?_)
          refine S_list (T_val (v := (Value.pointer (some ⟨hb, 0, none⟩))) (by kernel_rfl) ?_)
          refine S_list (T_val (v := (Value.pointer (some ⟨hb, 0, none⟩))) (by kernel_rfl) ?_)
          refine S_list (T_val (v := (Value.pointer (some ⟨cb, 0, none⟩))) (x_load1 rfl Try.underlying148 rfl ((Holds.rd H100_ 5 rfl) 0 (Value.pointer (some ⟨cb, 0, none⟩)) rfl)) ?_)
          refine S_list (T_val (v := kv) (x_move rfl) ?_)
          have H108_ : Holds w68_.drew (ro R :: cl cb 244 [(Value.int .u32 n)] :: cl b59_ 146 [(Value.int .i64 (compact + 1)), (Value.int .i64 0)] :: cl b30_ 146 [(Value.int .i64 (rev + 1)), (Value.int .i64 0)] :: cl b20_ 146 [(Value.int .i64 x.rev_Main), (Value.int .i64 x.rev_Sub)] :: cl b3_ 146 [(Value.int .i64 x.rev_Main), (Value.int .i64 x.rev_Sub)] :: cl hb 150 [(Value.pointer (some ⟨cb, 0, none⟩)), (Value.int .i64 compact), (Value.int .i64 rev), (Value.map (some mb))] :: mp K2 mb m :: F) := (Holds.bring (Holds.bring H100_ 6 rfl) 2 rfl)
          refine S_list (T_call (al := [(Value.pointer (some ⟨cb, 0, none⟩)), kv]) (pre := [cl cb 244 [(Value.int .u32 n)]]) (F := cl b59_ 146 [(Value.int .i64 (compact + 1)), (Value.int .i64 0)] :: cl b30_ 146 [(Value.int .i64 (rev + 1)), (Value.int .i64 0)] :: cl b20_ 146 [(Value.int .i64 x.rev_Main), (Value.int .i64 x.rev_Sub)] :: cl b3_ 146 [(Value.int .i64 x.rev_Main), (Value.int .i64 x.rev_Sub)] :: cl hb 150 [(Value.pointer (some ⟨cb, 0, none⟩)), (Value.int .i64 compact), (Value.int .i64 rev), (Value.map (some mb))] :: mp K2 mb m :: F) rfl rfl cb88 (wCrc R cb n kv x.kb hk (by first | assumption | omega)) H108_ ?_)
          rintro v107_ p112_ w109_ ⟨rfl, rfl⟩ S111_ H110_
          replace H110_ : Holds w109_ (ro R :: cl cb 244 [(Value.int .u32 (crc n x.kb))] :: cl b59_ 146 [(Value.int .i64 (compact + 1)), (Value.int .i64 0)] :: cl b30_ 146 [(Value.int .i64 (rev + 1)), (Value.int .i64 0)] :: cl b20_ 146 [(Value.int .i64 x.rev_Main), (Value.int .i64 x.rev_Sub)] :: cl b3_ 146 [(Value.int .i64 x.rev_Main), (Value.int .i64 x.rev_Sub)] :: cl hb 150 [(Value.pointer (some ⟨cb, 0, none⟩)), (Value.int .i64 compact), (Value.int .i64 rev), (Value.map (some mb))] :: mp K2 mb m :: F) := H110_
          have S113_ := Same.trans (Same.trans S70_ (Same.drew _)) S111_
          refine wpList_nil ?_
          refine (X_then (hK106_ _ _ ?_))
          clear hK106_
          refine C_reg ?_
          refine S_list (T_val (v := (Value.pointer (some ⟨hb, 0, none⟩))) (x_move rfl) ?_)
          refine S_list (T_val (v := (Value.pointer (some ⟨hb, 0, none⟩))) (by kernel_rfl) ?_)
          refine S_list (T_val (v := (Value.pointer (some ⟨hb, 0, none⟩))) (by kernel_rfl) ?_)
          refine S_list (T_val (v := (Value.pointer (some ⟨cb, 0, none⟩))) (x_load1 rfl Try.underlying148 rfl ((Holds.rd H110_ 6 rfl) 0 (Value.pointer (some ⟨cb, 0, none⟩)) rfl)) ?_)
          refine S_list (T_val (v := vv) (x_move rfl) ?_)
          refine S_list (T_call (al := [(Value.pointer (some ⟨cb, 0, none⟩)), vv]) (pre := [cl cb 244 [(Value.int .u32 (crc n x.kb))]]) (F := cl b59_ 146 [(Value.int .i64 (compact + 1)), (Value.int .i64 0)] :: cl b30_ 146 [(Value.int .i64 (rev + 1)), (Value.int .i64 0)] :: cl b20_ 146 [(Value.int .i64 x.rev_Main), (Value.int .i64 x.rev_Sub)] :: cl b3_ 146 [(Value.int .i64 x.rev_Main), (Value.int .i64 x.rev_Sub)] :: cl hb 150 [(Value.pointer (some ⟨cb, 0, none⟩)), (Value.int .i64 compact), (Value.int .i64 rev), (Value.map (some mb))] :: mp K2 mb m :: F) rfl rfl cb88 (wCrc R cb (crc n x.kb) vv x.vb hv (by first | assumption | omega)) H110_ ?_)
          rintro v114_ p118_ w115_ ⟨rfl, rfl⟩ S117_ H116_
          replace H116_ : Holds w115_ (ro R :: cl cb 244 [(Value.int .u32 (crc (crc n x.kb) x.vb))] :: cl b59_ 146 [(Value.int .i64 (compact + 1)), (Value.int .i64 0)] :: cl b30_ 146 [(Value.int .i64 (rev + 1)), (Value.int .i64 0)] :: cl b20_ 146 [(Value.int .i64 x.rev_Main), (Value.int .i64 x.rev_Sub)] :: cl b3_ 146 [(Value.int .i64 x.rev_Main), (Value.int .i64 x.rev_Sub)] :: cl hb 150 [(Value.pointer (some ⟨cb, 0, none⟩)), (Value.int .i64 compact), (Value.int .i64 rev), (Value.map (some mb))] :: mp K2 mb m :: F) := H116_
          have S119_ := Same.trans S113_ S117_
          refine wpList_nil ?_
          refine R_0 rfl ?_
          have H120_ : Holds w115_ (ro R :: cl cb 244 [(Value.int .u32 (hstep compact rev ks n x))] :: cl b59_ 146 [(Value.int .i64 (compact + 1)), (Value.int .i64 0)] :: cl b30_ 146 [(Value.int .i64 (rev + 1)), (Value.int .i64 0)] :: cl b20_ 146 [(Value.int .i64 x.rev_Main), (Value.int .i64 x.rev_Sub)] :: cl b3_ 146 [(Value.int .i64 x.rev_Main), (Value.int .i64 x.rev_Sub)] :: cl hb 150 [(Value.pointer (some ⟨cb, 0, none⟩)), (Value.int .i64 compact), (Value.int .i64 rev), (Value.map (some mb))] :: mp K2 mb m :: F) := cast1 (P := fun (c__ : List Value) => Holds w115_ (ro R :: cl cb 244 c__ :: cl b59_ 146 [(Value.int .i64 (compact + 1)), (Value.int .i64 0)] :: cl b30_ 146 [(Value.int .i64 (rev + 1)), (Value.int .i64 0)] :: cl b20_ 146 [(Value.int .i64 x.rev_Main), (Value.int .i64 x.rev_Sub)] :: cl b3_ 146 [(Value.int .i64 x.rev_Main), (Value.int .i64 x.rev_Sub)] :: cl hb 150 [(Value.pointer (some ⟨cb, 0, none⟩)), (Value.int .i64 compact), (Value.int .i64 rev), (Value.map (some mb))] :: mp K2 mb m :: F)) ((lcons (congrArg (Value.int .u32) ((hstep_yes (by have h_ : gt (rev + 1) 0 x.rev_Main x.rev_Sub = true := (by simpa using c48_f); rw [gt_up hs0] at h_; exact of_decide_eq_true h_) hmid (fun h__ => by have h_ := c103_f; rw [h__.2] at h_; cases h_)) : crc (crc n x.kb) x.vb = hstep compact rev ks n x)) rfl) : [(Value.int .u32 (crc (crc n x.kb) x.vb))] = [(Value.int .u32 (hstep compact rev ks n x))]) H116_
          have H121_ : Holds w115_ (ro R :: cl hb 150 [(Value.pointer (some ⟨cb, 0, none⟩)), (Value.int .i64 compact), (Value.int .i64 rev), (Value.map (some mb))] :: cl cb 244 [(Value.int .u32 (hstep compact rev ks n x))] :: mp K2 mb m :: F) := (Holds.erase (Holds.erase (Holds.erase (Holds.erase (Holds.bring (Holds.bring (Holds.bring (Holds.bring H120_ 7 rfl) 2 rfl) 7 rfl) 3 rfl) 4) 4) 4) 4)
          exact ⟨_, [cl hb 150 [(Value.pointer (some ⟨cb, 0, none⟩)), (Value.int .i64 compact), (Value.int .i64 rev), (Value.map (some mb))], cl cb 244 [(Value.int .u32 (hstep compact rev ks n x))], mp K2 mb m], rfl, ⟨rfl, rfl⟩, S119_, H121_⟩
      · have c102_fp : ¬ (x.rev_Main = compact) := of_decide_eq_false c102_f
        refine A_tkN 8 (j := 7) (dj := 62) (b := false) rfl (by kernel_rfl) rfl rfl (congrArg Value.bool c102_f) (by decide) hq101_ ?_
        refine A_tk 9 (v := (Value.bool false)) rfl (by kernel_rfl) (fun w hS => (x_pickF (congrArg Value.bool c102_f) rfl)) hq101_ ?_
        refine A_done (by kernel_rfl) ?_
        refine (X_then (hK99_ _ _ ?_))
        clear hK99_
        refine C_condF rfl ?_
        refine C_skip (X_then (hK98_ _ _ ?_))
        clear hK98_
        refine C_seq (fun K122_ hK122_ => ?_)
        refine C_reg ?_
        refine S_list (T_val (v := (Value.pointer (some ⟨hb, 0, none⟩))) (x_move rfl) ?_)
        refine S_list (T_val (v := (Value.pointer (some ⟨hb, 0, none⟩))) (by kernel_rfl) ?_)
        refine S_list (T_val (v := (Value.pointer (some ⟨hb, 0, none⟩))) (by kernel_rfl) ?_)
        refine S_list (T_val (v := (Value.pointer (some ⟨cb, 0, none⟩))) (x_load1 rfl Try.underlying148 rfl ((Holds.rd H100_ 5 rfl) 0 (Value.pointer (some ⟨cb, 0, none⟩)) rfl)) ?_)
        refine S_list (T_val (v := kv) (x_move rfl) ?_)
        have H124_ : Holds w68_.drew (ro R :: cl cb 244 [(Value.int .u32 n)] :: cl b59_ 146 [(Value.int .i64 (compact + 1)), (Value.int .i64 0)] :: cl b30_ 146 [(Value.int .i64 (rev + 1)), (Value.int .i64 0)] :: cl b20_ 146 [(Value.int .i64 x.rev_Main), (Value.int .i64 x.rev_Sub)] :: cl b3_ 146 [(Value.int .i64 x.rev_Main), (Value.int .i64 x.rev_Sub)] :: cl hb 150 [(Value.pointer (some ⟨cb, 0, none⟩)), (Value.int .i64 compact), (Value.int .i64 rev), (Value.map (some mb))] :: mp K2 mb m :: F) := (Holds.bring (Holds.bring H100_ 6 rfl) 2 rfl)
        refine S_list (T_call (al := [(Value.pointer (some ⟨cb, 0, none⟩)), kv]) (pre := [cl cb 244 [(Value.int .u32 n)]]) (F := cl b59_ 146 [(Value.int .i64 (compact + 1)), (Value.int .i64 0)] :: cl b30_ 146 [(Value.int .i64 (rev + 1)), (Value.int .i64 0)] :: cl b20_ 146 [(Value.int .i64 x.rev_Main), (Value.int .i64 x.rev_Sub)] :: cl b3_ 146 [(Value.int .i64 x.rev_Main), (Value.int .i64 x.rev_Sub)] :: cl hb 150 [(Value.pointer (some ⟨cb, 0, none⟩)), (Value.int .i64 compact), (Value.int .i64 rev), (Value.map (some mb))] :: mp K2 mb m :: F) rfl rfl cb88 (wCrc R cb n kv x.kb hk (by first | assumption | omega)) H124_ ?_)
        rintro v123_ p128_ w125_ ⟨rfl, rfl⟩ S127_ H126_
        replace H126_ : Holds w125_ (ro R :: cl cb 244 [(Value.int .u32 (crc n x.kb))] :: cl b59_ 146 [(Value.int .i64 (compact + 1)), (Value.int .i64 0)] :: cl b30_ 146 [(Value.int .i64 (rev + 1)), (Value.int .i64 0)] :: cl b20_ 146 [(Value.int .i64 x.rev_Main), (Value.int .i64 x.rev_Sub)] :: cl b3_ 146 [(Value.int .i64 x.rev_Main), (Value.int .i64 x.rev_Sub)] :: cl hb 150 [(Value.pointer (some ⟨cb, 0, none⟩)), (Value.int .i64 compact), (Value.int .i64 rev), (Value.map (some mb))] :: mp K2 mb m :: F) := H126_
        have S129_ := Same.trans (Same.trans S70_ (Same.drew _)) S127_
        refine wpList_nil ?_
        refine (X_then (hK122_ _ _ ?_))
        clear hK122_
        refine C_reg ?_
        refine S_list (T_val (v := (Value.pointer (some ⟨hb, 0, none⟩))) (x_move rfl) ?_)
        refine S_list (T_val (v := (Value.pointer (some ⟨hb, 0, none⟩))) (by kernel_rfl) ?_)
        refine S_list (T_val (v := (Value.pointer (some ⟨hb, 0, none⟩))) (by kernel_rfl) ?_)
        refine S_list (T_val (v := (Value.pointer (some ⟨cb, 0, none⟩))) (x_load1 rfl Try.underlying148 rfl ((Holds.rd H126_ 6 rfl) 0 (Value.pointer (some ⟨cb, 0, none⟩)) rfl)) ?_)
        refine S_list (T_val (v := vv) (x_move rfl) ?_)
        refine S_list (T_call (al := [(Value.pointer (some ⟨cb, 0, none⟩)), vv]) (pre := [cl cb 244 [(Value.int .u32 (crc n x.kb))]]) (F := cl b59_ 146 [(Value.int .i64 (compact + 1)), (Value.int .i64 0)] :: cl b30_ 146 [(Value.int .i64 (rev + 1)), (Value.int .i64 0)] :: cl b20_ 146 [(Value.int .i64 x.rev_Main), (Value.int .i64 x.rev_Sub)] :: cl b3_ 146 [(Value.int .i64 x.rev_Main), (Value.int .i64 x.rev_Sub)] :: cl hb 150 [(Value.pointer (some ⟨cb, 0, none⟩)), (Value.int .i64 compact), (Value.int .i64 rev), (Value.map (some mb))] :: mp K2 mb m :: F) rfl rfl cb88 (wCrc R cb (crc n x.kb) vv x.vb hv (by first | assumption | omega)) H126_ ?_)
        rintro v130_ p134_ w131_ ⟨rfl, rfl⟩ S133_ H132_
        replace H132_ : Holds w131_ (ro R :: cl cb 244 [(Value.int .u32 (crc (crc n x.kb) x.vb))] :: cl b59_ 146 [(Value.int .i64 (compact + 1)), (Value.int .i64 0)] :: cl b30_ 146 [(Value.int .i64 (rev + 1)), (Value.int .i64 0)] :: cl b20_ 146 [(Value.int .i64 x.rev_Main), (Value.int .i64 x.rev_Sub)] :: cl b3_ 146 [(Value.int .i64 x.rev_Main), (Value.int .i64 x.rev_Sub)] :: cl hb 150 [(Value.pointer (some ⟨cb, 0, none⟩)), (Value.int .i64 compact), (Value.int .i64 rev), (Value.map (some mb))] :: mp K2 mb m :: F) := H132_
        have S135_ := Same.trans S129_ S133_
        refine wpList_nil ?_
        refine R_0 rfl ?_
        have H136_ : Holds w131_ (ro R :: cl cb 244 [(Value.int .u32 (hstep compact rev ks n x))] :: cl b59_ 146 [(Value.int .i64 (compact + 1)), (Value.int .i64 0)] :: cl b30_ 146 [(Value.int .i64 (rev + 1)), (Value.int .i64 0)] :: cl b20_ 146 [(Value.int .i64 x.rev_Main), (Value.int .i64 x.rev_Sub)] :: cl b3_ 146 [(Value.int .i64 x.rev_Main), (Value.int .i64 x.rev_Sub)] :: cl hb 150 [(Value.pointer (some ⟨cb, 0, none⟩)), (Value.int .i64 compact), (Value.int .i64 rev), (Value.map (some mb))] :: mp K2 mb m :: F) := cast1 (P := fun (c__ : List Value) => Holds w131_ (ro R :: cl cb 244 c__ :: cl b59_ 146 [(Value.int .i64 (compact + 1)), (Value.int .i64 0)] :: cl b30_ 146 [(Value.int .i64 (rev + 1)), (Value.int .i64 0)] :: cl b20_ 146 [(Value.int .i64 x.rev_Main), (Value.int .i64 x.rev_Sub)] :: cl b3_ 146 [(Value.int .i64 x.rev_Main), (Value.int .i64 x.rev_Sub)] :: cl hb 150 [(Value.pointer (some ⟨cb, 0, none⟩)), (Value.int .i64 compact), (Value.int .i64 rev), (Value.map (some mb))] :: mp K2 mb m :: F)) ((lcons (congrArg (Value.int .u32) ((hstep_yes (by have h_ : gt (rev + 1) 0 x.rev_Main x.rev_Sub = true := (by simpa using c48_f); rw [gt_up hs0] at h_; exact of_decide_eq_true h_) hmid (fun h__ => c102_fp h__.1)) : crc (crc n x.kb) x.vb = hstep compact rev ks n x)) rfl) : [(Value.int .u32 (crc (crc n x.kb) x.vb))] = [(Value.int .u32 (hstep compact rev ks n x))]) H132_
        have H137_ : Holds w131_ (ro R :: cl hb 150 [(Value.pointer (some ⟨cb, 0, none⟩)), (Value.int .i64 compact), (Value.int .i64 rev), (Value.map (some mb))] :: cl cb 244 [(Value.int .u32 (hstep compact rev ks n x))] :: mp K2 mb m :: F) := (Holds.erase (Holds.erase (Holds.erase (Holds.erase (Holds.bring (Holds.bring (Holds.bring (Holds.bring H136_ 7 rfl) 2 rfl) 7 rfl) 3 rfl) 4) 4) 4) 4)
        exact ⟨_, [cl hb 150 [(Value.pointer (some ⟨cb, 0, none⟩)), (Value.int .i64 compact), (Value.int .i64 rev), (Value.map (some mb))], cl cb 244 [(Value.int .u32 (hstep compact rev ks n x))], mp K2 mb m], rfl, ⟨rfl, rfl⟩, S135_, H137_⟩

set_option maxHeartbeats 400000 in
theorem hWriteOut (R : HP) (hb cb mb : Nat) (n compact rev : Int) (kv vv : Value) (m : List ((Int × Int) × Value)) (ks : List (Int × Int)) (x : RW) (hk : RS R 1 kv x.kb.length (bytesV x.kb)) (hv : RS R 1 vv x.vb.length (bytesV x.vb)) (hmk : MK m ks) (hm0 : 0 ≤ x.rev_Main) (hm1 : x.rev_Main < 9223372036854775808) (hs0 : 0 ≤ x.rev_Sub) (hs1 : x.rev_Sub < 9223372036854775808) (hr0 : 0 ≤ rev) (hr1 : rev < 4611686018427387904) (hc0 : -1 ≤ compact) (hc1 : compact < 4611686018427387904) (hkl : x.kb.length ≤ 100) (hvl : x.vb.length ≤ 1000) (hmg : mget m (x.rev_Main, x.rev_Sub) = none) :
    Tri Try.prog 69 #[(Value.pointer (some ⟨hb, 0, none⟩)), kv, vv] R [cl hb 150 [(Value.pointer (some ⟨cb, 0, none⟩)), (Value.int .i64 compact), (Value.int .i64 rev), (Value.map (some mb))], cl cb 244 [(Value.int .u32 n)], mp K2 mb m] (fun v__ post__ => v__ = (Value.tuple #[]) ∧ post__ = [cl hb 150 [(Value.pointer (some ⟨cb, 0, none⟩)), (Value.int .i64 compact), (Value.int .i64 rev), (Value.map (some mb))], cl cb 244 [(Value.int .u32 (hstep compact rev ks n x))], mp K2 mb m]) := by
  refine Tri.into (n := 77) (al := [(Value.pointer (some ⟨hb, 0, none⟩)), kv, vv]) Try.func69 rfl Try.ntmps69 rfl rfl fun w F H => ?_
  replace H : Holds w (ro R :: cl hb 150 [(Value.pointer (some ⟨cb, 0, none⟩)), (Value.int .i64 compact), (Value.int .i64 rev), (Value.map (some mb))] :: cl cb 244 [(Value.int .u32 n)] :: mp K2 mb m :: F) := H
  refine C_seq (fun K1_ hK1_ => ?_)
  refine C_reg ?_
  refine S_list (T_val (v := kv) (x_move rfl) ?_)
  refine S_list (T_callW (al := [kv]) rfl rfl cb93 (Calls.into (n := 6) (al := [kv]) Try.func93 rfl Try.ntmps93 rfl rfl ?_))
  refine C_seq (fun K2_ hK2_ => ?_)
  refine C_reg ?_
  refine S_list (T_alloc z146 H ?_)
  intro b3_ w4_ S6_ H5_
  replace H5_ : Holds w4_ (cl b3_ 146 [(Value.int .i64 0), (Value.int .i64 0)] :: ro R :: cl hb 150 [(Value.pointer (some ⟨cb, 0, none⟩)), (Value.int .i64 compact), (Value.int .i64 rev), (Value.map (some mb))] :: cl cb 244 [(Value.int .u32 n)] :: mp K2 mb m :: F) := H5_
  have S7_ := Same.trans (Same.refl w) S6_
  refine wpList_nil ?_
  refine (X_then (hK2_ _ _ ?_))
  clear hK2_
  refine C_seq (fun K8_ hK8_ => ?_)
  refine C_reg ?_
  refine S_list (T_val (v := kv) (x_move rfl) ?_)
  have H10_ : Holds w4_ (ro R :: cl b3_ 146 [(Value.int .i64 0), (Value.int .i64 0)] :: cl hb 150 [(Value.pointer (some ⟨cb, 0, none⟩)), (Value.int .i64 compact), (Value.int .i64 rev), (Value.map (some mb))] :: cl cb 244 [(Value.int .u32 n)] :: mp K2 mb m :: F) := (Holds.bring H5_ 1 rfl)
  refine S_list (T_call (al := [kv]) (pre := []) (F := cl b3_ 146 [(Value.int .i64 0), (Value.int .i64 0)] :: cl hb 150 [(Value.pointer (some ⟨cb, 0, none⟩)), (Value.int .i64 compact), (Value.int .i64 rev), (Value.map (some mb))] :: cl cb 244 [(Value.int .u32 n)] :: mp K2 mb m :: F) rfl rfl cb95 (hBack R kv x.rev_Main x.rev_Sub x.gone (RS.set_ hk (by first | rfl | (simp [RW.cells, ZR.cells, RV.cells, MR.cells]; done)) (by first | rfl | omega | (simp; done) | (simp; omega))) (by first | assumption | omega) (by first | assumption | omega) (by first | assumption | omega) (by first | assumption | omega)) H10_ ?_)
  rintro v9_ p14_ w11_ ⟨rfl, rfl⟩ S13_ H12_
  replace H12_ : Holds w11_ (ro R :: cl b3_ 146 [(Value.int .i64 0), (Value.int .i64 0)] :: cl hb 150 [(Value.pointer (some ⟨cb, 0, none⟩)), (Value.int .i64 compact), (Value.int .i64 rev), (Value.map (some mb))] :: cl cb 244 [(Value.int .u32 n)] :: mp K2 mb m :: F) := H12_
  have S15_ := Same.trans S7_ S13_
  refine S_list (T_val (v := (Value.agg #[(Value.int .i64 x.rev_Main), (Value.int .i64 x.rev_Sub)])) (by kernel_rfl) ?_)
  refine S_list0 (T_storeN (vs := [(Value.int .i64 x.rev_Main), (Value.int .i64 x.rev_Sub)]) rfl rfl z146 rfl (by simp [Value.oneCell']) H12_ 1 rfl (Nat.le_of_ble_eq_true (by rfl)) ?_)
  intro w16_ S18_ H17_
  replace H17_ : Holds w16_ (ro R :: cl b3_ 146 [(Value.int .i64 x.rev_Main), (Value.int .i64 x.rev_Sub)] :: cl hb 150 [(Value.pointer (some ⟨cb, 0, none⟩)), (Value.int .i64 compact), (Value.int .i64 rev), (Value.map (some mb))] :: cl cb 244 [(Value.int .u32 n)] :: mp K2 mb m :: F) := H17_
  have S19_ := Same.trans S15_ S18_
  refine wpList_nil ?_
  refine (X_then (hK8_ _ _ ?_))
  clear hK8_
  refine C_ret ?_
  refine R_any (v := (Value.agg #[(Value.int .i64 x.rev_Main), (Value.int .i64 x.rev_Sub)])) (run_results1 rfl ⟨_, rfl, load_resN Try.underlying146 rfl z146 rfl (vs := [(Value.int .i64 x.rev_Main), (Value.int .i64 x.rev_Sub)]) (Holds.cl_cells H17_ 1 rfl 0 rfl)⟩) ⟨_, rfl, ?_⟩
  refine S_list (T_alloc z146 H17_ ?_)
  intro b20_ w21_ S23_ H22_
  replace H22_ : Holds w21_ (cl b20_ 146 [(Value.int .i64 0), (Value.int .i64 0)] :: ro R :: cl b3_ 146 [(Value.int .i64 x.rev_Main), (Value.int .i64 x.rev_Sub)] :: cl hb 150 [(Value.pointer (some ⟨cb, 0, none⟩)), (Value.int .i64 compact), (Value.int .i64 rev), (Value.map (some mb))] :: cl cb 244 [(Value.int .u32 n)] :: mp K2 mb m :: F) := H22_
  have S24_ := Same.trans S19_ S23_
  refine S_list0 (T_storeN (vs := [(Value.int .i64 x.rev_Main), (Value.int .i64 x.rev_Sub)]) rfl rfl z146 rfl (by simp [Value.oneCell']) H22_ 0 rfl (Nat.le_of_ble_eq_true (by rfl)) ?_)
  intro w25_ S27_ H26_
  replace H26_ : Holds w25_ (cl b20_ 146 [(Value.int .i64 x.rev_Main), (Value.int .i64 x.rev_Sub)] :: ro R :: cl b3_ 146 [(Value.int .i64 x.rev_Main), (Value.int .i64 x.rev_Sub)] :: cl hb 150 [(Value.pointer (some ⟨cb, 0, none⟩)), (Value.int .i64 compact), (Value.int .i64 rev), (Value.map (some mb))] :: cl cb 244 [(Value.int .u32 n)] :: mp K2 mb m :: F) := H26_
  have S28_ := Same.trans S24_ S27_
  refine wpList_nil ?_
  refine (X_then (hK1_ _ _ ?_))
  clear hK1_
  refine C_seq (fun K29_ hK29_ => ?_)
  refine C_reg ?_
  refine S_list (T_val (v := (Value.pointer (some ⟨hb, 0, none⟩))) (x_move rfl) ?_)
  refine S_list (T_val (v := (Value.pointer (some ⟨hb, 0, none⟩))) (by kernel_rfl) ?_)
  refine S_list (T_val (v := (Value.pointer (some ⟨hb, 2, none⟩))) (by kernel_rfl) ?_)
  refine S_list (T_val (v := (Value.int .i64 rev)) (x_load1 rfl Try.underlying2 rfl ((Holds.rd H26_ 3 rfl) 2 (Value.int .i64 rev) rfl)) ?_)
  refine S_list (T_val (v := (Value.int .i64 (rev + 1))) (x_bin rfl rfl (ib_add (IntWalk.i64_in _ (by omega)))) ?_)
  refine S_list (T_val (v := (Value.agg #[(Value.int .i64 (rev + 1)), (Value.int .i64 0)])) (by kernel_rfl) ?_)
  refine S_list (T_alloc z146 H26_ ?_)
  intro b30_ w31_ S33_ H32_
  replace H32_ : Holds w31_ (cl b30_ 146 [(Value.int .i64 0), (Value.int .i64 0)] :: cl b20_ 146 [(Value.int .i64 x.rev_Main), (Value.int .i64 x.rev_Sub)] :: ro R :: cl b3_ 146 [(Value.int .i64 x.rev_Main), (Value.int .i64 x.rev_Sub)] :: cl hb 150 [(Value.pointer (some ⟨cb, 0, none⟩)), (Value.int .i64 compact), (Value.int .i64 rev), (Value.map (some mb))] :: cl cb 244 [(Value.int .u32 n)] :: mp K2 mb m :: F) := H32_
  have S34_ := Same.trans S28_ S33_
  refine S_list0 (T_storeN (vs := [(Value.int .i64 (rev + 1)), (Value.int .i64 0)]) rfl rfl z146 rfl (by simp [Value.oneCell']) H32_ 0 rfl (Nat.le_of_ble_eq_true (by rfl)) ?_)
  intro w35_ S37_ H36_
  replace H36_ : Holds w35_ (cl b30_ 146 [(Value.int .i64 (rev + 1)), (Value.int .i64 0)] :: cl b20_ 146 [(Value.int .i64 x.rev_Main), (Value.int .i64 x.rev_Sub)] :: ro R :: cl b3_ 146 [(Value.int .i64 x.rev_Main), (Value.int .i64 x.rev_Sub)] :: cl hb 150 [(Value.pointer (some ⟨cb, 0, none⟩)), (Value.int .i64 compact), (Value.int .i64 rev), (Value.map (some mb))] :: cl cb 244 [(Value.int .u32 n)] :: mp K2 mb m :: F) := H36_
  have S38_ := Same.trans S34_ S37_
  refine wpList_nil ?_
  refine (X_then (hK29_ _ _ ?_))
  clear hK29_
  refine C_seq (fun K39_ hK39_ => ?_)
  refine C_seq (fun K40_ hK40_ => ?_)
  refine C_reg ?_
  refine S_list (T_val (v := (Value.agg #[(Value.int .i64 (rev + 1)), (Value.int .i64 0)])) (x_loadN (vs := [(Value.int .i64 (rev + 1)), (Value.int .i64 0)]) rfl Try.underlying146 rfl z146 rfl (Rd.cells (Holds.rd H36_ 0 rfl) 0 rfl)) ?_)
  refine S_list (T_val (v := (Value.agg #[(Value.int .i64 x.rev_Main), (Value.int .i64 x.rev_Sub)])) (x_loadN (vs := [(Value.int .i64 x.rev_Main), (Value.int .i64 x.rev_Sub)]) rfl Try.underlying146 rfl z146 rfl (Rd.cells (Holds.rd H36_ 1 rfl) 0 rfl)) ?_)
  have H42_ : Holds w35_ (ro R :: cl b30_ 146 [(Value.int .i64 (rev + 1)), (Value.int .i64 0)] :: cl b20_ 146 [(Value.int .i64 x.rev_Main), (Value.int .i64 x.rev_Sub)] :: cl b3_ 146 [(Value.int .i64 x.rev_Main), (Value.int .i64 x.rev_Sub)] :: cl hb 150 [(Value.pointer (some ⟨cb, 0, none⟩)), (Value.int .i64 compact), (Value.int .i64 rev), (Value.map (some mb))] :: cl cb 244 [(Value.int .u32 n)] :: mp K2 mb m :: F) := (Holds.bring H36_ 2 rfl)
  refine S_list (T_call (al := [(Value.agg #[(Value.int .i64 (rev + 1)), (Value.int .i64 0)]), (Value.agg #[(Value.int .i64 x.rev_Main), (Value.int .i64 x.rev_Sub)])]) (pre := []) (F := cl b30_ 146 [(Value.int .i64 (rev + 1)), (Value.int .i64 0)] :: cl b20_ 146 [(Value.int .i64 x.rev_Main), (Value.int .i64 x.rev_Sub)] :: cl b3_ 146 [(Value.int .i64 x.rev_Main), (Value.int .i64 x.rev_Sub)] :: cl hb 150 [(Value.pointer (some ⟨cb, 0, none⟩)), (Value.int .i64 compact), (Value.int .i64 rev), (Value.map (some mb))] :: cl cb 244 [(Value.int .u32 n)] :: mp K2 mb m :: F) rfl rfl cb94 (hGT R (rev + 1) 0 x.rev_Main x.rev_Sub) H42_ ?_)
  rintro v41_ p46_ w43_ ⟨rfl, rfl⟩ S45_ H44_
  replace H44_ : Holds w43_ (ro R :: cl b30_ 146 [(Value.int .i64 (rev + 1)), (Value.int .i64 0)] :: cl b20_ 146 [(Value.int .i64 x.rev_Main), (Value.int .i64 x.rev_Sub)] :: cl b3_ 146 [(Value.int .i64 x.rev_Main), (Value.int .i64 x.rev_Sub)] :: cl hb 150 [(Value.pointer (some ⟨cb, 0, none⟩)), (Value.int .i64 compact), (Value.int .i64 rev), (Value.map (some mb))] :: cl cb 244 [(Value.int .u32 n)] :: mp K2 mb m :: F) := H44_
  have S47_ := Same.trans S38_ S45_
  refine S_list (T_val (v := (Value.bool (!(gt (rev + 1) 0 x.rev_Main x.rev_Sub)))) (x_not rfl) ?_)
  refine wpList_nil ?_
  refine (X_then (hK40_ _ _ ?_))
  clear hK40_
  refine C_cond (b := !(gt (rev + 1) 0 x.rev_Main x.rev_Sub)) rfl (fun c48_t => ?_) (fun c48_f => ?_)
  · skip
    refine C_ret (X_thenR ?_)
    refine R_0r rfl ?_
    have H49_ : Holds w43_ (ro R :: cl b30_ 146 [(Value.int .i64 (rev + 1)), (Value.int .i64 0)] :: cl b20_ 146 [(Value.int .i64 x.rev_Main), (Value.int .i64 x.rev_Sub)] :: cl b3_ 146 [(Value.int .i64 x.rev_Main), (Value.int .i64 x.rev_Sub)] :: cl hb 150 [(Value.pointer (some ⟨cb, 0, none⟩)), (Value.int .i64 compact), (Value.int .i64 rev), (Value.map (some mb))] :: cl cb 244 [(Value.int .u32 (hstep compact rev ks n x))] :: mp K2 mb m :: F) := cast1 (P := fun (c__ : List Value) => Holds w43_ (ro R :: cl b30_ 146 [(Value.int .i64 (rev + 1)), (Value.int .i64 0)] :: cl b20_ 146 [(Value.int .i64 x.rev_Main), (Value.int .i64 x.rev_Sub)] :: cl b3_ 146 [(Value.int .i64 x.rev_Main), (Value.int .i64 x.rev_Sub)] :: cl hb 150 [(Value.pointer (some ⟨cb, 0, none⟩)), (Value.int .i64 compact), (Value.int .i64 rev), (Value.map (some mb))] :: cl cb 244 c__ :: mp K2 mb m :: F)) ((lcons (congrArg (Value.int .u32) ((hstep_no (fun h__ => (show ¬ x.rev_Main ≤ rev from (by have h_ : gt (rev + 1) 0 x.rev_Main x.rev_Sub = false := (by simpa using c48_t); rw [gt_up hs0] at h_; exact of_decide_eq_false h_)) h__.1)) : n = hstep compact rev ks n x)) rfl) : [(Value.int .u32 n)] = [(Value.int .u32 (hstep compact rev ks n x))]) H44_
    have H50_ : Holds w43_ (ro R :: cl hb 150 [(Value.pointer (some ⟨cb, 0, none⟩)), (Value.int .i64 compact), (Value.int .i64 rev), (Value.map (some mb))] :: cl cb 244 [(Value.int .u32 (hstep compact rev ks n x))] :: mp K2 mb m :: F) := (Holds.erase (Holds.erase (Holds.erase (Holds.bring (Holds.bring (Holds.bring (Holds.bring H49_ 6 rfl) 6 rfl) 6 rfl) 3 rfl) 4) 4) 4)
    exact ⟨_, [cl hb 150 [(Value.pointer (some ⟨cb, 0, none⟩)), (Value.int .i64 compact), (Value.int .i64 rev), (Value.map (some mb))], cl cb 244 [(Value.int .u32 (hstep compact rev ks n x))], mp K2 mb m], rfl, ⟨rfl, rfl⟩, S47_, H50_⟩
  · skip
    refine C_skip (X_then (hK39_ _ _ ?_))
    clear hK39_
    refine C_seq (fun K51_ hK51_ => ?_)
    refine C_reg ?_
    refine S_list (T_val (v := kv) (x_move rfl) ?_)
    refine S_list (T_call (al := [kv]) (pre := []) (F := cl b30_ 146 [(Value.int .i64 (rev + 1)), (Value.int .i64 0)] :: cl b20_ 146 [(Value.int .i64 x.rev_Main), (Value.int .i64 x.rev_Sub)] :: cl b3_ 146 [(Value.int .i64 x.rev_Main), (Value.int .i64 x.rev_Sub)] :: cl hb 150 [(Value.pointer (some ⟨cb, 0, none⟩)), (Value.int .i64 compact), (Value.int .i64 rev), (Value.map (some mb))] :: cl cb 244 [(Value.int .u32 n)] :: mp K2 mb m :: F) rfl rfl cb95 (hBack R kv x.rev_Main x.rev_Sub x.gone (RS.set_ hk (by first | rfl | (simp [RW.cells, ZR.cells, RV.cells, MR.cells]; done)) (by first | rfl | omega | (simp; done) | (simp; omega))) (by first | assumption | omega) (by first | assumption | omega) (by first | assumption | omega) (by first | assumption | omega)) H44_ ?_)
    rintro v52_ p56_ w53_ ⟨rfl, rfl⟩ S55_ H54_
    replace H54_ : Holds w53_ (ro R :: cl b30_ 146 [(Value.int .i64 (rev + 1)), (Value.int .i64 0)] :: cl b20_ 146 [(Value.int .i64 x.rev_Main), (Value.int .i64 x.rev_Sub)] :: cl b3_ 146 [(Value.int .i64 x.rev_Main), (Value.int .i64 x.rev_Sub)] :: cl hb 150 [(Value.pointer (some ⟨cb, 0, none⟩)), (Value.int .i64 compact), (Value.int .i64 rev), (Value.map (some mb))] :: cl cb 244 [(Value.int .u32 n)] :: mp K2 mb m :: F) := H54_
    have S57_ := Same.trans S47_ S55_
    refine S_list (T_val (v := (Value.bool x.gone)) (by kernel_rfl) ?_)
    refine S_list (T_val (v := (Value.bool x.gone)) (x_assign rfl) ?_)
    refine wpList_nil ?_
    refine (X_then (hK51_ _ _ ?_))
    clear hK51_
    refine C_seq (fun K58_ hK58_ => ?_)
    refine C_reg ?_
    refine S_list (T_val (v := (Value.pointer (some ⟨hb, 0, none⟩))) (x_move rfl) ?_)
    refine S_list (T_val (v := (Value.pointer (some ⟨hb, 0, none⟩))) (by kernel_rfl) ?_)
    refine S_list (T_val (v := (Value.pointer (some ⟨hb, 1, none⟩))) (by kernel_rfl) ?_)
    refine S_list (T_val (v := (Value.int .i64 compact)) (x_load1 rfl Try.underlying2 rfl ((Holds.rd H54_ 4 rfl) 1 (Value.int .i64 compact) rfl)) ?_)
    refine S_list (T_val (v := (Value.int .i64 (compact + 1))) (x_bin rfl rfl (ib_add (IntWalk.i64_in _ (by omega)))) ?_)
    refine S_list (T_val (v := (Value.agg #[(Value.int .i64 (compact + 1)), (Value.int .i64 0)])) (by kernel_rfl) ?_)
    refine S_list (T_alloc z146 H54_ ?_)
    intro b59_ w60_ S62_ H61_
    replace H61_ : Holds w60_ (cl b59_ 146 [(Value.int .i64 0), (Value.int .i64 0)] :: ro R :: cl b30_ 146 [(Value.int .i64 (rev + 1)), (Value.int .i64 0)] :: cl b20_ 146 [(Value.int .i64 x.rev_Main), (Value.int .i64 x.rev_Sub)] :: cl b3_ 146 [(Value.int .i64 x.rev_Main), (Value.int .i64 x.rev_Sub)] :: cl hb 150 [(Value.pointer (some ⟨cb, 0, none⟩)), (Value.int .i64 compact), (Value.int .i64 rev), (Value.map (some mb))] :: cl cb 244 [(Value.int .u32 n)] :: mp K2 mb m :: F) := H61_
    have S63_ := Same.trans S57_ S62_
    refine S_list0 (T_storeN (vs := [(Value.int .i64 (compact + 1)), (Value.int .i64 0)]) rfl rfl z146 rfl (by simp [Value.oneCell']) H61_ 0 rfl (Nat.le_of_ble_eq_true (by rfl)) ?_)
    intro w64_ S66_ H65_
    replace H65_ : Holds w64_ (cl b59_ 146 [(Value.int .i64 (compact + 1)), (Value.int .i64 0)] :: ro R :: cl b30_ 146 [(Value.int .i64 (rev + 1)), (Value.int .i64 0)] :: cl b20_ 146 [(Value.int .i64 x.rev_Main), (Value.int .i64 x.rev_Sub)] :: cl b3_ 146 [(Value.int .i64 x.rev_Main), (Value.int .i64 x.rev_Sub)] :: cl hb 150 [(Value.pointer (some ⟨cb, 0, none⟩)), (Value.int .i64 compact), (Value.int .i64 rev), (Value.map (some mb))] :: cl cb 244 [(Value.int .u32 n)] :: mp K2 mb m :: F) := H65_
    have S67_ := Same.trans S63_ S66_
    refine wpList_nil ?_
    refine (X_then (hK58_ _ _ ?_))
    clear hK58_
    refine C_cut (fun a__ w1__ => ∃ h : Env, a__ = mkA 77 (upd (upd (upd (upd (upd h 0 (Value.pointer (some ⟨hb, 0, none⟩))) 1 kv) 2 vv) 6 (Value.pointer (some ⟨b20_, 0, none⟩))) 8 (Value.bool x.gone)) [] ∧ Holds w1__ (cl b59_ 146 [(Value.int .i64 (compact + 1)), (Value.int .i64 0)] :: ro R :: cl b30_ 146 [(Value.int .i64 (rev + 1)), (Value.int .i64 0)] :: cl b20_ 146 [(Value.int .i64 x.rev_Main), (Value.int .i64 x.rev_Sub)] :: cl b3_ 146 [(Value.int .i64 x.rev_Main), (Value.int .i64 x.rev_Sub)] :: cl hb 150 [(Value.pointer (some ⟨cb, 0, none⟩)), (Value.int .i64 compact), (Value.int .i64 rev), (Value.map (some mb))] :: cl cb 244 [(Value.int .u32 n)] :: mp K2 mb m :: F) ∧ Same w w1__ ∧ (compact < x.rev_Main ∨ ks = [] ∨ (x.rev_Main, x.rev_Sub) ∈ ks)) ?_ ?_
    · refine C_seq (fun K71_ hK71_ => ?_)
      refine C_reg ?_
      refine S_list (T_val (v := (Value.agg #[(Value.int .i64 (compact + 1)), (Value.int .i64 0)])) (x_loadN (vs := [(Value.int .i64 (compact + 1)), (Value.int .i64 0)]) rfl Try.underlying146 rfl z146 rfl (Rd.cells (Holds.rd H65_ 0 rfl) 0 rfl)) ?_)
      refine S_list (T_val (v := (Value.agg #[(Value.int .i64 x.rev_Main), (Value.int .i64 x.rev_Sub)])) (x_loadN (vs := [(Value.int .i64 x.rev_Main), (Value.int .i64 x.rev_Sub)]) rfl Try.underlying146 rfl z146 rfl (Rd.cells (Holds.rd H65_ 3 rfl) 0 rfl)) ?_)
      have H73_ : Holds w64_ (ro R :: cl b59_ 146 [(Value.int .i64 (compact + 1)), (Value.int .i64 0)] :: cl b30_ 146 [(Value.int .i64 (rev + 1)), (Value.int .i64 0)] :: cl b20_ 146 [(Value.int .i64 x.rev_Main), (Value.int .i64 x.rev_Sub)] :: cl b3_ 146 [(Value.int .i64 x.rev_Main), (Value.int .i64 x.rev_Sub)] :: cl hb 150 [(Value.pointer (some ⟨cb, 0, none⟩)), (Value.int .i64 compact), (Value.int .i64 rev), (Value.map (some mb))] :: cl cb 244 [(Value.int .u32 n)] :: mp K2 mb m :: F) := (Holds.bring H65_ 1 rfl)
      refine S_list (T_call (al := [(Value.agg #[(Value.int .i64 (compact + 1)), (Value.int .i64 0)]), (Value.agg #[(Value.int .i64 x.rev_Main), (Value.int .i64 x.rev_Sub)])]) (pre := []) (F := cl b59_ 146 [(Value.int .i64 (compact + 1)), (Value.int .i64 0)] :: cl b30_ 146 [(Value.int .i64 (rev + 1)), (Value.int .i64 0)] :: cl b20_ 146 [(Value.int .i64 x.rev_Main), (Value.int .i64 x.rev_Sub)] :: cl b3_ 146 [(Value.int .i64 x.rev_Main), (Value.int .i64 x.rev_Sub)] :: cl hb 150 [(Value.pointer (some ⟨cb, 0, none⟩)), (Value.int .i64 compact), (Value.int .i64 rev), (Value.map (some mb))] :: cl cb 244 [(Value.int .u32 n)] :: mp K2 mb m :: F) rfl rfl cb94 (hGT R (compact + 1) 0 x.rev_Main x.rev_Sub) H73_ ?_)
      rintro v72_ p77_ w74_ ⟨rfl, rfl⟩ S76_ H75_
      replace H75_ : Holds w74_ (ro R :: cl b59_ 146 [(Value.int .i64 (compact + 1)), (Value.int .i64 0)] :: cl b30_ 146 [(Value.int .i64 (rev + 1)), (Value.int .i64 0)] :: cl b20_ 146 [(Value.int .i64 x.rev_Main), (Value.int .i64 x.rev_Sub)] :: cl b3_ 146 [(Value.int .i64 x.rev_Main), (Value.int .i64 x.rev_Sub)] :: cl hb 150 [(Value.pointer (some ⟨cb, 0, none⟩)), (Value.int .i64 compact), (Value.int .i64 rev), (Value.map (some mb))] :: cl cb 244 [(Value.int .u32 n)] :: mp K2 mb m :: F) := H75_
      have S78_ := Same.trans S67_ S76_
      refine S_list (T_val (v := (Value.bool (gt (compact + 1) 0 x.rev_Main x.rev_Sub))) (x_move rfl) ?_)
      rcases Bool.eq_false_or_eq_true (gt (compact + 1) 0 x.rev_Main x.rev_Sub) with c79_t | c79_f
      · skip
        refine S_yes (j := 3) (dj := 36) (b := true) rfl rfl (congrArg Value.bool c79_t) (T_val (v := (Value.pointer (some ⟨hb, 0, none⟩))) (x_move rfl) ?_)
        refine S_yes (j := 3) (dj := 36) (b := true) rfl rfl (congrArg Value.bool c79_t) (T_val (v := (Value.pointer (some ⟨hb, 0, none⟩))) (by kernel_rfl) ?_)
        refine S_yes (j := 3) (dj := 36) (b := true) rfl rfl (congrArg Value.bool c79_t) (T_val (v := (Value.pointer (some ⟨hb, 3, none⟩))) (by kernel_rfl) ?_)
        refine S_yes (j := 3) (dj := 36) (b := true) rfl rfl (congrArg Value.bool c79_t) (T_val (v := (Value.map (some mb))) (x_load1 rfl Try.underlying145 rfl ((Holds.rd H75_ 5 rfl) 3 (Value.map (some mb)) rfl)) ?_)
        refine S_yes (j := 3) (dj := 36) (b := true) rfl rfl (congrArg Value.bool c79_t) (T_val (v := (Value.int .i64 (List.length m : Int))) (x_lenMp (K := K2) rfl Try.underlying145 (Holds.mprd H75_ 7 rfl)) ?_)
        refine S_yes (j := 3) (dj := 36) (b := true) rfl rfl (congrArg Value.bool c79_t) (T_val (v := (Value.bool (decide (0 < (List.length m : Int))))) (x_bin rfl rfl rfl) ?_)
        refine S_list (T_pickT (v := (Value.bool (decide (0 < (List.length m : Int))))) (congrArg Value.bool c79_t) rfl ?_)
        refine wpList_nil ?_
        refine (X_then (hK71_ _ _ ?_))
        clear hK71_
        refine C_cond (b := decide (0 < (List.length m : Int))) rfl (fun c80_t => ?_) (fun c80_f => ?_)
        · have c80_tp : 0 < (List.length m : Int) := of_decide_eq_true c80_t
          refine C_seq (fun K81_ hK81_ => ?_)
          refine A_start (S := fun w => Rd b20_ [(Value.int .i64 x.rev_Main), (Value.int .i64 x.rev_Sub)] w ∧ Rd hb [(Value.pointer (some ⟨cb, 0, none⟩)), (Value.int .i64 compact), (Value.int .i64 rev), (Value.map (some mb))] w ∧ Rd cb [(Value.int .u32 n)] w ∧ MpRd K2 mb m w ∧ Sub R (hp w)) (N := 12) foll rfl rfl ?_
          have H82_ : Holds w74_.drew (ro R :: cl b59_ 146 [(Value.int .i64 (compact + 1)), (Value.int .i64 0)] :: cl b30_ 146 [(Value.int .i64 (rev + 1)), (Value.int .i64 0)] :: cl b20_ 146 [(Value.int .i64 x.rev_Main), (Value.int .i64 x.rev_Sub)] :: cl b3_ 146 [(Value.int .i64 x.rev_Main), (Value.int .i64 x.rev_Sub)] :: cl hb 150 [(Value.pointer (some ⟨cb, 0, none⟩)), (Value.int .i64 compact), (Value.int .i64 rev), (Value.map (some mb))] :: cl cb 244 [(Value.int .u32 n)] :: mp K2 mb m :: F) := H75_
          have hq83_ := And.intro (Holds.rd H82_ 3 rfl) (And.intro (Holds.rd H82_ 5 rfl) (And.intro (Holds.rd H82_ 6 rfl) (And.intro (Holds.mprd H82_ 7 rfl) ((Holds.ro_at H82_ 0 rfl)))))
          refine A_tk 0 (v := (Value.pointer (some ⟨hb, 0, none⟩))) rfl (by kernel_rfl) (fun w hS => x_move rfl) hq83_ ?_
          refine A_tk 1 (v := (Value.pointer (some ⟨hb, 0, none⟩))) rfl (by kernel_rfl) (fun w hS => by kernel_rfl) hq83_ ?_
          refine A_tk 2 (v := (Value.pointer (some ⟨hb, 3, none⟩))) rfl (by kernel_rfl) (fun w hS => by kernel_rfl) hq83_ ?_
          refine A_tk 3 (v := (Value.map (some mb))) rfl (by kernel_rfl) (fun w hS => x_load1 rfl Try.underlying145 rfl (hS.2.1 3 (Value.map (some mb)) rfl)) hq83_ ?_
          refine A_tk 4 (v := (Value.agg #[(Value.int .i64 x.rev_Main), (Value.int .i64 x.rev_Sub)])) rfl (by kernel_rfl) (fun w hS => x_loadN (vs := [(Value.int .i64 x.rev_Main), (Value.int .i64 x.rev_Sub)]) rfl Try.underlying146 rfl z146 rfl (Rd.cells hS.1 0 rfl)) hq83_ ?_
          refine A_tk 5 (v := (Value.tuple #[(Value.agg #[]), (Value.bool false)])) rfl (by kernel_rfl) (fun w hS => x_lookup (K := K2) (a := (x.rev_Main, x.rev_Sub)) (m := m) rfl rfl (KeyKind.pair (t := 2) ⟨Try.underlying146, by kernel_rfl, by kernel_rfl, by kernel_rfl, rfl, rfl, rfl, rfl, Try.underlying2⟩) Try.underlying145 z147 hS.2.2.2.1 (by rw [hmg]; rfl)) hq83_ ?_
          refine A_tk 6 (v := (Value.tuple #[(Value.agg #[]), (Value.bool false)])) rfl (by kernel_rfl) (fun w hS => x_move rfl) hq83_ ?_
          refine A_tk 7 (v := (Value.agg #[])) rfl (by kernel_rfl) (fun w hS => by kernel_rfl) hq83_ ?_
          refine A_tk 8 (v := (Value.bool false)) rfl (by kernel_rfl) (fun w hS => by kernel_rfl) hq83_ ?_
          refine A_ready (i := 9) (rs := []) (by kernel_rfl) ?_
          refine AllR.cons ?_ AllR.nil
          refine A_op (ls' := #[true, true, true, true, true, true, true, true, true, true, false, false]) rfl (by kernel_rfl) (T_alloc z147 H82_ ?_)
          intro b84_ w85_ S87_ H86_
          replace H86_ : Holds w85_ (cl b84_ 147 [] :: ro R :: cl b59_ 146 [(Value.int .i64 (compact + 1)), (Value.int .i64 0)] :: cl b30_ 146 [(Value.int .i64 (rev + 1)), (Value.int .i64 0)] :: cl b20_ 146 [(Value.int .i64 x.rev_Main), (Value.int .i64 x.rev_Sub)] :: cl b3_ 146 [(Value.int .i64 x.rev_Main), (Value.int .i64 x.rev_Sub)] :: cl hb 150 [(Value.pointer (some ⟨cb, 0, none⟩)), (Value.int .i64 compact), (Value.int .i64 rev), (Value.map (some mb))] :: cl cb 244 [(Value.int .u32 n)] :: mp K2 mb m :: F) := H86_
          have S88_ := Same.trans (Same.trans S78_ (Same.drew _)) S87_
          refine ⟨⟨Holds.rd H86_ 4 rfl, Holds.rd H86_ 6 rfl, Holds.rd H86_ 7 rfl, Holds.mprd H86_ 8 rfl, (Holds.ro_at H86_ 1 rfl)⟩, ?_⟩
          refine A_ready (i := 10) (rs := []) (by kernel_rfl) ?_
          refine AllR.cons ?_ AllR.nil
          refine A_op0 (ls' := #[true, true, true, true, true, true, true, true, true, true, true, false]) rfl (by kernel_rfl) (T_storeN (vs := []) rfl rfl z147 rfl (by simp [Value.oneCell']) H86_ 0 rfl (Nat.le_of_ble_eq_true (by rfl)) ?_)
          intro w89_ S91_ H90_
          replace H90_ : Holds w89_ (cl b84_ 147 [] :: ro R :: cl b59_ 146 [(Value.int .i64 (compact + 1)), (Value.int .i64 0)] :: cl b30_ 146 [(Value.int .i64 (rev + 1)), (Value.int .i64 0)] :: cl b20_ 146 [(Value.int .i64 x.rev_Main), (Value.int .i64 x.rev_Sub)] :: cl b3_ 146 [(Value.int .i64 x.rev_Main), (Value.int .i64 x.rev_Sub)] :: cl hb 150 [(Value.pointer (some ⟨cb, 0, none⟩)), (Value.int .i64 compact), (Value.int .i64 rev), (Value.map (some mb))] :: cl cb 244 [(Value.int .u32 n)] :: mp K2 mb m :: F) := H90_
          have S92_ := Same.trans S88_ S91_
          refine ⟨⟨Holds.rd H90_ 4 rfl, Holds.rd H90_ 6 rfl, Holds.rd H90_ 7 rfl, Holds.mprd H90_ 8 rfl, (Holds.ro_at H90_ 1 rfl)⟩, ?_⟩
          have hq93_ := And.intro (Holds.rd H90_ 4 rfl) (And.intro (Holds.rd H90_ 6 rfl) (And.intro (Holds.rd H90_ 7 rfl) (And.intro (Holds.mprd H90_ 8 rfl) ((Holds.ro_at H90_ 1 rfl)))))
          refine A_tk 11 (v := (Value.bool false)) rfl (by kernel_rfl) (fun w hS => x_assign rfl) hq93_ ?_
          refine A_done (by kernel_rfl) ?_
          refine (X_then (hK81_ _ _ ?_))
          clear hK81_
          refine C_seq (fun K94_ hK94_ => ?_)
          refine C_reg ?_
          refine S_list (T_val (v := (Value.bool false)) (x_move rfl) ?_)
          refine S_list (T_val (v := (Value.bool true)) (x_cast (x_not (b := false) rfl) rfl) ?_)
          refine wpList_nil ?_
          refine (X_then (hK94_ _ _ ?_))
          clear hK94_
          refine C_condT rfl ?_
          refine C_ret (X_thenR ?_)
          refine R_0r rfl ?_
          have H95_ : Holds w89_ (cl b84_ 147 [] :: ro R :: cl b59_ 146 [(Value.int .i64 (compact + 1)), (Value.int .i64 0)] :: cl b30_ 146 [(Value.int .i64 (rev + 1)), (Value.int .i64 0)] :: cl b20_ 146 [(Value.int .i64 x.rev_Main), (Value.int .i64 x.rev_Sub)] :: cl b3_ 146 [(Value.int .i64 x.rev_Main), (Value.int .i64 x.rev_Sub)] :: cl hb 150 [(Value.pointer (some ⟨cb, 0, none⟩)), (Value.int .i64 compact), (Value.int .i64 rev), (Value.map (some mb))] :: cl cb 244 [(Value.int .u32 (hstep compact rev ks n x))] :: mp K2 mb m :: F) := cast1 (P := fun (c__ : List Value) => Holds w89_ (cl b84_ 147 [] :: ro R :: cl b59_ 146 [(Value.int .i64 (compact + 1)), (Value.int .i64 0)] :: cl b30_ 146 [(Value.int .i64 (rev + 1)), (Value.int .i64 0)] :: cl b20_ 146 [(Value.int .i64 x.rev_Main), (Value.int .i64 x.rev_Sub)] :: cl b3_ 146 [(Value.int .i64 x.rev_Main), (Value.int .i64 x.rev_Sub)] :: cl hb 150 [(Value.pointer (some ⟨cb, 0, none⟩)), (Value.int .i64 compact), (Value.int .i64 rev), (Value.map (some mb))] :: cl cb 244 c__ :: mp K2 mb m :: F)) ((lcons (congrArg (Value.int .u32) ((hstep_no (fun h__ => by have h1__ : x.rev_Main ≤ compact := (by have h_ : gt (compact + 1) 0 x.rev_Main x.rev_Sub = true := c79_t; rw [gt_up hs0] at h_; exact of_decide_eq_true h_); rcases h__.2.1 with h2__ | h2__ | h2__ <;> first | omega | exact hmk.out_ hmg h2__ | (have h3__ := congrArg List.length (hmk.nil.2 h2__); simp only [List.length_nil] at h3__; omega))) : n = hstep compact rev ks n x)) rfl) : [(Value.int .u32 n)] = [(Value.int .u32 (hstep compact rev ks n x))]) H90_
          have H96_ : Holds w89_ (ro R :: cl hb 150 [(Value.pointer (some ⟨cb, 0, none⟩)), (Value.int .i64 compact), (Value.int .i64 rev), (Value.map (some mb))] :: cl cb 244 [(Value.int .u32 (hstep compact rev ks n x))] :: mp K2 mb m :: F) := (Holds.erase (Holds.erase (Holds.erase (Holds.erase (Holds.erase (Holds.bring (Holds.bring (Holds.bring (Holds.bring H95_ 8 rfl) 8 rfl) 8 rfl) 4 rfl) 4) 4) 4) 4) 4)
          exact ⟨_, [cl hb 150 [(Value.pointer (some ⟨cb, 0, none⟩)), (Value.int .i64 compact), (Value.int .i64 rev), (Value.map (some mb))], cl cb 244 [(Value.int .u32 (hstep compact rev ks n x))], mp K2 mb m], rfl, ⟨rfl, rfl⟩, S92_, H96_⟩
        · have c80_fp : ¬ (0 < (List.length m : Int)) := of_decide_eq_false c80_f
          refine C_skip (X_then ?_)
          have H97_ : Holds w74_ (cl b59_ 146 [(Value.int .i64 (compact + 1)), (Value.int .i64 0)] :: ro R :: cl b30_ 146 [(Value.int .i64 (rev + 1)), (Value.int .i64 0)] :: cl b20_ 146 [(Value.int .i64 x.rev_Main), (Value.int .i64 x.rev_Sub)] :: cl b3_ 146 [(Value.int .i64 x.rev_Main), (Value.int .i64 x.rev_Sub)] :: cl hb 150 [(Value.pointer (some ⟨cb, 0, none⟩)), (Value.int .i64 compact), (Value.int .i64 rev), (Value.map (some mb))] :: cl cb 244 [(Value.int .u32 n)] :: mp K2 mb m :: F) := (Holds.bring (Holds.bring (Holds.bring (Holds.bring (Holds.bring (Holds.bring (Holds.bring (Holds.bring H75_ 7 rfl) 7 rfl) 7 rfl) 7 rfl) 7 rfl) 7 rfl) 6 rfl) 7 rfl)
          exact ⟨_, congrArg (fun e => mkA 77 e []) (ch (ch (ch (ch (ch rfl rfl) rfl) rfl) rfl) rfl), H97_, S78_, (.inr (.inl (hmk.nil.1 (List.eq_nil_of_length_eq_zero (by omega)))))⟩
      · skip
        refine S_no (j := 3) (dj := 36) (b := false) rfl rfl (congrArg Value.bool c79_f) (by decide) ?_
        refine S_no (j := 3) (dj := 36) (b := false) rfl rfl (congrArg Value.bool c79_f) (by decide) ?_
        refine S_no (j := 3) (dj := 36) (b := false) rfl rfl (congrArg Value.bool c79_f) (by decide) ?_
        refine S_no (j := 3) (dj := 36) (b := false) rfl rfl (congrArg Value.bool c79_f) (by decide) ?_
        refine S_no (j := 3) (dj := 36) (b := false) rfl rfl (congrArg Value.bool c79_f) (by decide) ?_
        refine S_no (j := 3) (dj := 36) (b := false) rfl rfl (congrArg Value.bool c79_f) (by decide) ?_
        refine S_list (T_pickF (v := (Value.bool false)) (congrArg Value.bool c79_f) rfl ?_)
        refine wpList_nil ?_
        refine (X_then (hK71_ _ _ ?_))
        clear hK71_
        refine C_condF rfl ?_
        refine C_skip (X_then ?_)
        have H98_ : Holds w74_ (cl b59_ 146 [(Value.int .i64 (compact + 1)), (Value.int .i64 0)] :: ro R :: cl b30_ 146 [(Value.int .i64 (rev + 1)), (Value.int .i64 0)] :: cl b20_ 146 [(Value.int .i64 x.rev_Main), (Value.int .i64 x.rev_Sub)] :: cl b3_ 146 [(Value.int .i64 x.rev_Main), (Value.int .i64 x.rev_Sub)] :: cl hb 150 [(Value.pointer (some ⟨cb, 0, none⟩)), (Value.int .i64 compact), (Value.int .i64 rev), (Value.map (some mb))] :: cl cb 244 [(Value.int .u32 n)] :: mp K2 mb m :: F) := (Holds.bring (Holds.bring (Holds.bring (Holds.bring (Holds.bring (Holds.bring (Holds.bring (Holds.bring H75_ 7 rfl) 7 rfl) 7 rfl) 7 rfl) 7 rfl) 7 rfl) 6 rfl) 7 rfl)
        exact ⟨_, congrArg (fun e => mkA 77 e []) (ch (ch (ch (ch (ch rfl rfl) rfl) rfl) rfl) rfl), H98_, S78_, (.inl (by have h1__ : ¬ x.rev_Main ≤ compact := (by have h_ : gt (compact + 1) 0 x.rev_Main x.rev_Sub = false := c79_f; rw [gt_up hs0] at h_; exact of_decide_eq_false h_); omega))⟩
    · rintro _ w68_ ⟨h, rfl, H69_, S70_, hmid⟩
      refine C_seq (fun K99_ hK99_ => ?_)
      refine C_seq (fun K100_ hK100_ => ?_)
      refine A_start (S := fun w => Rd b20_ [(Value.int .i64 x.rev_Main), (Value.int .i64 x.rev_Sub)] w ∧ Rd hb [(Value.pointer (some ⟨cb, 0, none⟩)), (Value.int .i64 compact), (Value.int .i64 rev), (Value.map (some mb))] w ∧ Rd cb [(Value.int .u32 n)] w ∧ MpRd K2 mb m w ∧ Sub R (hp w)) (N := 10) foll rfl rfl ?_
      have H101_ : Holds w68_.drew (cl b59_ 146 [(Value.int .i64 (compact + 1)), (Value.int .i64 0)] :: ro R :: cl b30_ 146 [(Value.int .i64 (rev + 1)), (Value.int .i64 0)] :: cl b20_ 146 [(Value.int .i64 x.rev_Main), (Value.int .i64 x.rev_Sub)] :: cl b3_ 146 [(Value.int .i64 x.rev_Main), (Value.int .i64 x.rev_Sub)] :: cl hb 150 [(Value.pointer (some ⟨cb, 0, none⟩)), (Value.int .i64 compact), (Value.int .i64 rev), (Value.map (some mb))] :: cl cb 244 [(Value.int .u32 n)] :: mp K2 mb m :: F) := H69_
      have hq102_ := And.intro (Holds.rd H101_ 3 rfl) (And.intro (Holds.rd H101_ 5 rfl) (And.intro (Holds.rd H101_ 6 rfl) (And.intro (Holds.mprd H101_ 7 rfl) ((Holds.ro_at H101_ 1 rfl)))))
      refine A_tk 0 (v := (Value.pointer (some ⟨b20_, 0, none⟩))) rfl (by kernel_rfl) (fun w hS => by kernel_rfl) hq102_ ?_
      refine A_tk 1 (v := (Value.int .i64 x.rev_Main)) rfl (by kernel_rfl) (fun w hS => x_load1 rfl Try.underlying2 rfl (hS.1 0 (Value.int .i64 x.rev_Main) rfl)) hq102_ ?_
      refine A_tk 2 (v := (Value.pointer (some ⟨hb, 0, none⟩))) rfl (by kernel_rfl) (fun w hS => x_move rfl) hq102_ ?_
      refine A_tk 3 (v := (Value.pointer (some ⟨hb, 0, none⟩))) rfl (by kernel_rfl) (fun w hS => by kernel_rfl) hq102_ ?_
      refine A_tk 4 (v := (Value.pointer (some ⟨hb, 1, none⟩))) rfl (by kernel_rfl) (fun w hS => by kernel_rfl) hq102_ ?_
      refine A_tk 5 (v := (Value.int .i64 compact)) rfl (by kernel_rfl) (fun w hS => x_load1 rfl Try.underlying2 rfl (hS.2.1 1 (Value.int .i64 compact) rfl)) hq102_ ?_
      refine A_tk 6 (v := (Value.bool (decide (x.rev_Main = compact)))) rfl (by kernel_rfl) (fun w hS => x_bin rfl rfl rfl) hq102_ ?_
      refine A_tk 7 (v := (Value.bool (decide (x.rev_Main = compact)))) rfl (by kernel_rfl) (fun w hS => x_move rfl) hq102_ ?_
      rcases Bool.eq_false_or_eq_true (decide (x.rev_Main = compact)) with c103_t | c103_f
      · have c103_tp : x.rev_Main = compact := of_decide_eq_true c103_t
        refine A_tkY 8 (j := 7) (dj := 62) (b := true) (v := (Value.bool x.gone)) rfl (by kernel_rfl) rfl rfl (congrArg Value.bool c103_t) (fun w hS => x_move rfl) hq102_ ?_
        refine A_tk 9 (v := (Value.bool x.gone)) rfl (by kernel_rfl) (fun w hS => (x_pickT (congrArg Value.bool c103_t) rfl)) hq102_ ?_
        refine A_done (by kernel_rfl) ?_
        refine (X_then (hK100_ _ _ ?_))
        clear hK100_
        refine C_cond (b := x.gone) rfl (fun c104_t => ?_) (fun c104_f => ?_)
        · skip
          refine C_ret (X_thenR ?_)
          refine R_0r rfl ?_
          have H105_ : Holds w68_.drew (cl b59_ 146 [(Value.int .i64 (compact + 1)), (Value.int .i64 0)] :: ro R :: cl b30_ 146 [(Value.int .i64 (rev + 1)), (Value.int .i64 0)] :: cl b20_ 146 [(Value.int .i64 x.rev_Main), (Value.int .i64 x.rev_Sub)] :: cl b3_ 146 [(Value.int .i64 x.rev_Main), (Value.int .i64 x.rev_Sub)] :: cl hb 150 [(Value.pointer (some ⟨cb, 0, none⟩)), (Value.int .i64 compact), (Value.int .i64 rev), (Value.map (some mb))] :: cl cb 244 [(Value.int .u32 (hstep compact rev ks n x))] :: mp K2 mb m :: F) := cast1 (P := fun (c__ : List Value) => Holds w68_.drew (cl b59_ 146 [(Value.int .i64 (compact + 1)), (Value.int .i64 0)] :: ro R :: cl b30_ 146 [(Value.int .i64 (rev + 1)), (Value.int .i64 0)] :: cl b20_ 146 [(Value.int .i64 x.rev_Main), (Value.int .i64 x.rev_Sub)] :: cl b3_ 146 [(Value.int .i64 x.rev_Main), (Value.int .i64 x.rev_Sub)] :: cl hb 150 [(Value.pointer (some ⟨cb, 0, none⟩)), (Value.int .i64 compact), (Value.int .i64 rev), (Value.map (some mb))] :: cl cb 244 c__ :: mp K2 mb m :: F)) ((lcons (congrArg (Value.int .u32) ((hstep_no (fun h__ => h__.2.2 ⟨c103_tp, c104_t⟩)) : n = hstep compact rev ks n x)) rfl) : [(Value.int .u32 n)] = [(Value.int .u32 (hstep compact rev ks n x))]) H101_
          have H106_ : Holds w68_.drew (ro R :: cl hb 150 [(Value.pointer (some ⟨cb, 0, none⟩)), (Value.int .i64 compact), (Value.int .i64 rev), (Value.map (some mb))] :: cl cb 244 [(Value.int .u32 (hstep compact rev ks n x))] :: mp K2 mb m :: F) := (Holds.erase (Holds.erase (Holds.erase (Holds.erase (Holds.bring (Holds.bring (Holds.bring (Holds.bring H105_ 7 rfl) 7 rfl) 7 rfl) 4 rfl) 4) 4) 4) 4)
          exact ⟨_, [cl hb 150 [(Value.pointer (some ⟨cb, 0, none⟩)), (Value.int .i64 compact), (Value.int .i64 rev), (Value.map (some mb))], cl cb 244 [(Value.int .u32 (hstep compact rev ks n x))], mp K2 mb m], rfl, ⟨rfl, rfl⟩, (Same.trans S70_ (Same.drew _)), H106_⟩
        · skip
          refine C_skip (X_then (hK99_ _ _ ?_))
          clear hK99_
          refine C_seq (fun K107_ hK107_ => ?_)
          refine C_reg ?_
          refine S_list (T_val (v := (Value.pointer (some ⟨hb, 0, none⟩))) (x_move rfl) ?_)
          refine S_list (T_val (v := (Value.pointer (some ⟨hb, 0, none⟩))) (by kernel_rfl) ?_)
          refine S_list (T_val (v := (Value.pointer (some ⟨hb, 0, none⟩))) (by kernel_rfl) ?_)
          refine S_list (T_val (v := (Value.pointer (some ⟨cb, 0, none⟩))) (x_load1 rfl Try.underlying148 rfl ((Holds.rd H101_ 5 rfl) 0 (Value.pointer (some ⟨cb, 0, none⟩)) rfl)) ?_)
          refine S_list (T_val (v := kv) (x_move rfl) ?_)
          have H109_ : Holds w68_.drew (ro R :: cl cb 244 [(Value.int .u32 n)] :: cl b59_ 146 [(Value.int .i64 (compact + 1)), (Value.int .i64 0)] :: cl b30_ 146 [(Value.int .i64 (rev + 1)), (Value.int .i64 0)] :: cl b20_ 146 [(Value.int .i64 x.rev_Main), (Value.int .i64 x.rev_Sub)] :: cl b3_ 146 [(Value.int .i64 x.rev_Main), (Value.int .i64 x.rev_Sub)] :: cl hb 150 [(Value.pointer (some ⟨cb, 0, none⟩)), (Value.int .i64 compact), (Value.int .i64 rev), (Value.map (some mb))] :: mp K2 mb m :: F) := (Holds.bring (Holds.bring H101_ 6 rfl) 2 rfl)
          refine S_list (T_call (al := [(Value.pointer (some ⟨cb, 0, none⟩)), kv]) (pre := [cl cb 244 [(Value.int .u32 n)]]) (F := cl b59_ 146 [(Value.int .i64 (compact + 1)), (Value.int .i64 0)] :: cl b30_ 146 [(Value.int .i64 (rev + 1)), (Value.int .i64 0)] :: cl b20_ 146 [(Value.int .i64 x.rev_Main), (Value.int .i64 x.rev_Sub)] :: cl b3_ 146 [(Value.int .i64 x.rev_Main), (Value.int .i64 x.rev_Sub)] :: cl hb 150 [(Value.pointer (some ⟨cb, 0, none⟩)), (Value.int .i64 compact), (Value.int .i64 rev), (Value.map (some mb))] :: mp K2 mb m :: F) rfl rfl cb88 (wCrc R cb n kv x.kb hk (by first | assumption | omega)) H109_ ?_)
          rintro v108_ p113_ w110_ ⟨rfl, rfl⟩ S112_ H111_
          replace H111_ : Holds w110_ (ro R :: cl cb 244 [(Value.int .u32 (crc n x.kb))] :: cl b59_ 146 [(Value.int .i64 (compact + 1)), (Value.int .i64 0)] :: cl b30_ 146 [(Value.int .i64 (rev + 1)), (Value.int .i64 0)] :: cl b20_ 146 [(Value.int .i64 x.rev_Main), (Value.int .i64 x.rev_Sub)] :: cl b3_ 146 [(Value.int .i64 x.rev_Main), (Value.int .i64 x.rev_Sub)] :: cl hb 150 [(Value.pointer (some ⟨cb, 0, none⟩)), (Value.int .i64 compact), (Value.int .i64 rev), (Value.map (some mb))] :: mp K2 mb m :: F) := H111_
          have S114_ := Same.trans (Same.trans S70_ (Same.drew _)) S112_
          refine wpList_nil ?_
          refine (X_then (hK107_ _ _ ?_))
          clear hK107_
          refine C_reg ?_
          refine S_list (T_val (v := (Value.pointer (some ⟨hb, 0, none⟩))) (x_move rfl) ?_)
          refine S_list (T_val (v := (Value.pointer (some ⟨hb, 0, none⟩))) (by kernel_rfl) ?_)
          refine S_list (T_val (v := (Value.pointer (some ⟨hb, 0, none⟩))) (by kernel_rfl) ?_)
          refine S_list (T_val (v := (Value.pointer (some ⟨cb, 0, none⟩))) (x_load1 rfl Try.underlying148 rfl ((Holds.rd H111_ 6 rfl) 0 (Value.pointer (some ⟨cb, 0, none⟩)) rfl)) ?_)
          refine S_list (T_val (v := vv) (x_move rfl) ?_)
          refine S_list (T_call (al := [(Value.pointer (some ⟨cb, 0, none⟩)), vv]) (pre := [cl cb 244 [(Value.int .u32 (crc n x.kb))]]) (F := cl b59_ 146 [(Value.int .i64 (compact + 1)), (Value.int .i64 0)] :: cl b30_ 146 [(Value.int .i64 (rev + 1)), (Value.int .i64 0)] :: cl b20_ 146 [(Value.int .i64 x.rev_Main), (Value.int .i64 x.rev_Sub)] :: cl b3_ 146 [(Value.int .i64 x.rev_Main), (Value.int .i64 x.rev_Sub)] :: cl hb 150 [(Value.pointer (some ⟨cb, 0, none⟩)), (Value.int .i64 compact), (Value.int .i64 rev), (Value.map (some mb))] :: mp K2 mb m :: F) rfl rfl cb88 (wCrc R cb (crc n x.kb) vv x.vb hv (by first | assumption | omega)) H111_ ?_)
          rintro v115_ p119_ w116_ ⟨rfl, rfl⟩ S118_ H117_
          replace H117_ : Holds w116_ (ro R :: cl cb 244 [(Value.int .u32 (crc (crc n x.kb) x.vb))] :: cl b59_ 146 [(Value.int .i64 (compact + 1)), (Value.int .i64 0)] :: cl b30_ 146 [(Value.int .i64 (rev + 1)), (Value.int .i64 0)] :: cl b20_ 146 [(Value.int .i64 x.rev_Main), (Value.int .i64 x.rev_Sub)] :: cl b3_ 146 [(Value.int .i64 x.rev_Main), (Value.int .i64 x.rev_Sub)] :: cl hb 150 [(Value.pointer (some ⟨cb, 0, none⟩)), (Value.int .i64 compact), (Value.int .i64 rev), (Value.map (some mb))] :: mp K2 mb m :: F) := H117_
          have S120_ := Same.trans S114_ S118_
          refine wpList_nil ?_
          refine R_0 rfl ?_
          have H121_ : Holds w116_ (ro R :: cl cb 244 [(Value.int .u32 (hstep compact rev ks n x))] :: cl b59_ 146 [(Value.int .i64 (compact + 1)), (Value.int .i64 0)] :: cl b30_ 146 [(Value.int .i64 (rev + 1)), (Value.int .i64 0)] :: cl b20_ 146 [(Value.int .i64 x.rev_Main), (Value.int .i64 x.rev_Sub)] :: cl b3_ 146 [(Value.int .i64 x.rev_Main), (Value.int .i64 x.rev_Sub)] :: cl hb 150 [(Value.pointer (some ⟨cb, 0, none⟩)), (Value.int .i64 compact), (Value.int .i64 rev), (Value.map (some mb))] :: mp K2 mb m :: F) := cast1 (P := fun (c__ : List Value) => Holds w116_ (ro R :: cl cb 244 c__ :: cl b59_ 146 [(Value.int .i64 (compact + 1)), (Value.int .i64 0)] :: cl b30_ 146 [(Value.int .i64 (rev + 1)), (Value.int .i64 0)] :: cl b20_ 146 [(Value.int .i64 x.rev_Main), (Value.int .i64 x.rev_Sub)] :: cl b3_ 146 [(Value.int .i64 x.rev_Main), (Value.int .i64 x.rev_Sub)] :: cl hb 150 [(Value.pointer (some ⟨cb, 0, none⟩)), (Value.int .i64 compact), (Value.int .i64 rev), (Value.map (some mb))] :: mp K2 mb m :: F)) ((lcons (congrArg (Value.int .u32) ((hstep_yes (by have h_ : gt (rev + 1) 0 x.rev_Main x.rev_Sub = true := (by simpa using c48_f); rw [gt_up hs0] at h_; exact of_decide_eq_true h_) hmid (fun h__ => by have h_ := c104_f; rw [h__.2] at h_; cases h_)) : crc (crc n x.kb) x.vb = hstep compact rev ks n x)) rfl) : [(Value.int .u32 (crc (crc n x.kb) x.vb))] = [(Value.int .u32 (hstep compact rev ks n x))]) H117_
          have H122_ : Holds w116_ (ro R :: cl hb 150 [(Value.pointer (some ⟨cb, 0, none⟩)), (Value.int .i64 compact), (Value.int .i64 rev), (Value.map (some mb))] :: cl cb 244 [(Value.int .u32 (hstep compact rev ks n x))] :: mp K2 mb m :: F) := (Holds.erase (Holds.erase (Holds.erase (Holds.erase (Holds.bring (Holds.bring (Holds.bring (Holds.bring H121_ 7 rfl) 2 rfl) 7 rfl) 3 rfl) 4) 4) 4) 4)
          exact ⟨_, [cl hb 150 [(Value.pointer (some ⟨cb, 0, none⟩)), (Value.int .i64 compact), (Value.int .i64 rev), (Value.map (some mb))], cl cb 244 [(Value.int .u32 (hstep compact rev ks n x))], mp K2 mb m], rfl, ⟨rfl, rfl⟩, S120_, H122_⟩
      · have c103_fp : ¬ (x.rev_Main = compact) := of_decide_eq_false c103_f
        refine A_tkN 8 (j := 7) (dj := 62) (b := false) rfl (by kernel_rfl) rfl rfl (congrArg Value.bool c103_f) (by decide) hq102_ ?_
        refine A_tk 9 (v := (Value.bool false)) rfl (by kernel_rfl) (fun w hS => (x_pickF (congrArg Value.bool c103_f) rfl)) hq102_ ?_
        refine A_done (by kernel_rfl) ?_
        refine (X_then (hK100_ _ _ ?_))
        clear hK100_
        refine C_condF rfl ?_
        refine C_skip (X_then (hK99_ _ _ ?_))
        clear hK99_
        refine C_seq (fun K123_ hK123_ => ?_)
        refine C_reg ?_
        refine S_list (T_val (v := (Value.pointer (some ⟨hb, 0, none⟩))) (x_move rfl) ?_)
        refine S_list (T_val (v := (Value.pointer (some ⟨hb, 0, none⟩))) (by kernel_rfl) ?_)
        refine S_list (T_val (v := (Value.pointer (some ⟨hb, 0, none⟩))) (by kernel_rfl) ?_)
        refine S_list (T_val (v := (Value.pointer (some ⟨cb, 0, none⟩))) (x_load1 rfl Try.underlying148 rfl ((Holds.rd H101_ 5 rfl) 0 (Value.pointer (some ⟨cb, 0, none⟩)) rfl)) ?_)
        refine S_list (T_val (v := kv) (x_move rfl) ?_)
        have H125_ : Holds w68_.drew (ro R :: cl cb 244 [(Value.int .u32 n)] :: cl b59_ 146 [(Value.int .i64 (compact + 1)), (Value.int .i64 0)] :: cl b30_ 146 [(Value.int .i64 (rev + 1)), (Value.int .i64 0)] :: cl b20_ 146 [(Value.int .i64 x.rev_Main), (Value.int .i64 x.rev_Sub)] :: cl b3_ 146 [(Value.int .i64 x.rev_Main), (Value.int .i64 x.rev_Sub)] :: cl hb 150 [(Value.pointer (some ⟨cb, 0, none⟩)), (Value.int .i64 compact), (Value.int .i64 rev), (Value.map (some mb))] :: mp K2 mb m :: F) := (Holds.bring (Holds.bring H101_ 6 rfl) 2 rfl)
        refine S_list (T_call (al := [(Value.pointer (some ⟨cb, 0, none⟩)), kv]) (pre := [cl cb 244 [(Value.int .u32 n)]]) (F := cl b59_ 146 [(Value.int .i64 (compact + 1)), (Value.int .i64 0)] :: cl b30_ 146 [(Value.int .i64 (rev + 1)), (Value.int .i64 0)] :: cl b20_ 146 [(Value.int .i64 x.rev_Main), (Value.int .i64 x.rev_Sub)] :: cl b3_ 146 [(Value.int .i64 x.rev_Main), (Value.int .i64 x.rev_Sub)] :: cl hb 150 [(Value.pointer (some ⟨cb, 0, none⟩)), (Value.int .i64 compact), (Value.int .i64 rev), (Value.map (some mb))] :: mp K2 mb m :: F) rfl rfl cb88 (wCrc R cb n kv x.kb hk (by first | assumption | omega)) H125_ ?_)
        rintro v124_ p129_ w126_ ⟨rfl, rfl⟩ S128_ H127_
        replace H127_ : Holds w126_ (ro R :: cl cb 244 [(Value.int .u32 (crc n x.kb))] :: cl b59_ 146 [(Value.int .i64 (compact + 1)), (Value.int .i64 0)] :: cl b30_ 146 [(Value.int .i64 (rev + 1)), (Value.int .i64 0)] :: cl b20_ 146 [(Value.int .i64 x.rev_Main), (Value.int .i64 x.rev_Sub)] :: cl b3_ 146 [(Value.int .i64 x.rev_Main), (Value.int .i64 x.rev_Sub)] :: cl hb 150 [(Value.pointer (some ⟨cb, 0, none⟩)), (Value.int .i64 compact), (Value.int .i64 rev), (Value.map (some mb))] :: mp K2 mb m :: F) := H127_
        have S130_ := Same.trans (Same.trans S70_ (Same.drew _)) S128_
        refine wpList_nil ?_
        refine (X_then (hK123_ _ _ ?_))
        clear hK123_
        refine C_reg ?_
        refine S_list (T_val (v := (Value.pointer (some ⟨hb, 0, none⟩))) (x_move rfl) ?_)
        refine S_list (T_val (v := (Value.pointer (some ⟨hb, 0, none⟩))) (by kernel_rfl) ?_)
        refine S_list (T_val (v := (Value.pointer (some ⟨hb, 0, none⟩))) (by kernel_rfl) ?_)
        refine S_list (T_val (v := (Value.pointer (some ⟨cb, 0, none⟩))) (x_load1 rfl Try.underlying148 rfl ((Holds.rd H127_ 6 rfl) 0 (Value.pointer (some ⟨cb, 0, none⟩)) rfl)) ?_)
        refine S_list (T_val (v := vv) (x_move rfl) ?_)
        refine S_list (T_call (al := [(Value.pointer (some ⟨cb, 0, none⟩)), vv]) (pre := [cl cb 244 [(Value.int .u32 (crc n x.kb))]]) (F := cl b59_ 146 [(Value.int .i64 (compact + 1)), (Value.int .i64 0)] :: cl b30_ 146 [(Value.int .i64 (rev + 1)), (Value.int .i64 0)] :: cl b20_ 146 [(Value.int .i64 x.rev_Main), (Value.int .i64 x.rev_Sub)] :: cl b3_ 146 [(Value.int .i64 x.rev_Main), (Value.int .i64 x.rev_Sub)] :: cl hb 150 [(Value.pointer (some ⟨cb, 0, none⟩)), (Value.int .i64 compact), (Value.int .i64 rev), (Value.map (some mb))] :: mp K2 mb m :: F) rfl rfl cb88 (wCrc R cb (crc n x.kb) vv x.vb hv (by first | assumption | omega)) H127_ ?_)
        rintro v131_ p135_ w132_ ⟨rfl, rfl⟩ S134_ H133_
        replace H133_ : Holds w132_ (ro R :: cl cb 244 [(Value.int .u32 (crc (crc n x.kb) x.vb))] :: cl b59_ 146 [(Value.int .i64 (compact + 1)), (Value.int .i64 0)] :: cl b30_ 146 [(Value.int .i64 (rev + 1)), (Value.int .i64 0)] :: cl b20_ 146 [(Value.int .i64 x.rev_Main), (Value.int .i64 x.rev_Sub)] :: cl b3_ 146 [(Value.int .i64 x.rev_Main), (Value.int .i64 x.rev_Sub)] :: cl hb 150 [(Value.pointer (some ⟨cb, 0, none⟩)), (Value.int .i64 compact), (Value.int .i64 rev), (Value.map (some mb))] :: mp K2 mb m :: F) := H133_
        have S136_ := Same.trans S130_ S134_
        refine wpList_nil ?_
        refine R_0 rfl ?_
        have H137_ : Holds w132_ (ro R :: cl cb 244 [(Value.int .u32 (hstep compact rev ks n x))] :: cl b59_ 146 [(Value.int .i64 (compact + 1)), (Value.int .i64 0)] :: cl b30_ 146 [(Value.int .i64 (rev + 1)), (Value.int .i64 0)] :: cl b20_ 146 [(Value.int .i64 x.rev_Main), (Value.int .i64 x.rev_Sub)] :: cl b3_ 146 [(Value.int .i64 x.rev_Main), (Value.int .i64 x.rev_Sub)] :: cl hb 150 [(Value.pointer (some ⟨cb, 0, none⟩)), (Value.int .i64 compact), (Value.int .i64 rev), (Value.map (some mb))] :: mp K2 mb m :: F) := cast1 (P := fun (c__ : List Value) => Holds w132_ (ro R :: cl cb 244 c__ :: cl b59_ 146 [(Value.int .i64 (compact + 1)), (Value.int .i64 0)] :: cl b30_ 146 [(Value.int .i64 (rev + 1)), (Value.int .i64 0)] :: cl b20_ 146 [(Value.int .i64 x.rev_Main), (Value.int .i64 x.rev_Sub)] :: cl b3_ 146 [(Value.int .i64 x.rev_Main), (Value.int .i64 x.rev_Sub)] :: cl hb 150 [(Value.pointer (some ⟨cb, 0, none⟩)), (Value.int .i64 compact), (Value.int .i64 rev), (Value.map (some mb))] :: mp K2 mb m :: F)) ((lcons (congrArg (Value.int .u32) ((hstep_yes (by have h_ : gt (rev + 1) 0 x.rev_Main x.rev_Sub = true := (by simpa using c48_f); rw [gt_up hs0] at h_; exact of_decide_eq_true h_) hmid (fun h__ => c103_fp h__.1)) : crc (crc n x.kb) x.vb = hstep compact rev ks n x)) rfl) : [(Value.int .u32 (crc (crc n x.kb) x.vb))] = [(Value.int .u32 (hstep compact rev ks n x))]) H133_
        have H138_ : Holds w132_ (ro R :: cl hb 150 [(Value.pointer (some ⟨cb, 0, none⟩)), (Value.int .i64 compact), (Value.int .i64 rev), (Value.map (some mb))] :: cl cb 244 [(Value.int .u32 (hstep compact rev ks n x))] :: mp K2 mb m :: F) := (Holds.erase (Holds.erase (Holds.erase (Holds.erase (Holds.bring (Holds.bring (Holds.bring (Holds.bring H137_ 7 rfl) 2 rfl) 7 rfl) 3 rfl) 4) 4) 4) 4)
        exact ⟨_, [cl hb 150 [(Value.pointer (some ⟨cb, 0, none⟩)), (Value.int .i64 compact), (Value.int .i64 rev), (Value.map (some mb))], cl cb 244 [(Value.int .u32 (hstep compact rev ks n x))], mp K2 mb m], rfl, ⟨rfl, rfl⟩, S136_, H138_⟩

theorem hWrite (R : HP) (hb cb mb : Nat) (n compact rev : Int) (kv vv : Value) (m : List ((Int × Int) × Value)) (ks : List (Int × Int)) (x : RW) (hk : RS R 1 kv x.kb.length (bytesV x.kb)) (hv : RS R 1 vv x.vb.length (bytesV x.vb)) (hmk : MK m ks) (hm0 : 0 ≤ x.rev_Main) (hm1 : x.rev_Main < 9223372036854775808) (hs0 : 0 ≤ x.rev_Sub) (hs1 : x.rev_Sub < 9223372036854775808) (hr0 : 0 ≤ rev) (hr1 : rev < 4611686018427387904) (hc0 : -1 ≤ compact) (hc1 : compact < 4611686018427387904) (hkl : x.kb.length ≤ 100) (hvl : x.vb.length ≤ 1000) :
    Tri Try.prog 69 #[(Value.pointer (some ⟨hb, 0, none⟩)), kv, vv] R [cl hb 150 [(Value.pointer (some ⟨cb, 0, none⟩)), (Value.int .i64 compact), (Value.int .i64 rev), (Value.map (some mb))], cl cb 244 [(Value.int .u32 n)], mp K2 mb m] (fun v__ post__ => v__ = (Value.tuple #[]) ∧ post__ = [cl hb 150 [(Value.pointer (some ⟨cb, 0, none⟩)), (Value.int .i64 compact), (Value.int .i64 rev), (Value.map (some mb))], cl cb 244 [(Value.int .u32 (hstep compact rev ks n x))], mp K2 mb m]) := by
  rcases Decidable.em ((x.rev_Main, x.rev_Sub) ∈ ks) with h | h
  · exact hWriteIn R hb cb mb n compact rev kv vv m ks x hk hv hmk hm0 hm1 hs0 hs1 hr0 hr1 hc0 hc1 hkl hvl (hmk.yes _ h)
  · exact hWriteOut R hb cb mb n compact rev kv vv m ks x hk hv hmk hm0 hm1 hs0 hs1 hr0 hr1 hc0 hc1 hkl hvl (hmk.no _ h)
end Go.Proofs.Ytgeggiebefonhaa
