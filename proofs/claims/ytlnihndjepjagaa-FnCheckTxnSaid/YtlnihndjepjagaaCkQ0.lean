/- The checks that every law begins with. -/
import Derived.Test.YtlnihndjepjagaaCkP0
set_option linter.unusedVariables false
set_option linter.unusedSimpArgs false
namespace Go.Proofs.Ytlnihndjepjagaa
open Go Go.RowKit Gw

set_option maxHeartbeats 400000 in
theorem ckLive (R : HP) :
    Tri Try.prog 14 #[] R [] (fun v__ post__ => v__ = (Value.bool true) ∧ post__ = []) := by
 refine Tri.into (n := 9) (al := []) Try.func14 rfl Try.ntmps14 rfl rfl fun w F H => ?_
 refine C_seq (fun K1_ hK1_ => ?_)
 refine C_reg ?_
 refine S_list (T_val (v := (Value.bool false)) (x_assign rfl) ?_)
 refine wpList_nil ?_
 refine (X_then (hK1_ _ _ ?_))
 clear hK1_
 refine C_seq (fun K2_ hK2_ => ?_)
 refine C_reg ?_
 refine S_list (T_val (v := (Value.agg #[(Value.int .i64 2), (Value.string ByteArray.empty), (Value.string ByteArray.empty), (Value.string ByteArray.empty), (Value.int .i64 0), (Value.int .i64 0), (Value.int .i64 0), (Value.int .i64 0), (Value.int .i64 0), (Value.int .i64 0), (Value.int .i64 0), (Value.int .i64 0), (Value.int .i64 0), (Value.bool false), (Value.bool false), (Value.bool false), (Value.bool false), (Value.bool false), (Value.slice none 0 0), (Value.slice none 0 0), (Value.slice none 0 0)])) (by kernel_rfl) ?_)
 refine S_list (T_callW (al := [(Value.agg #[(Value.int .i64 2), (Value.string ByteArray.empty), (Value.string ByteArray.empty), (Value.string ByteArray.empty), (Value.int .i64 0), (Value.int .i64 0), (Value.int .i64 0), (Value.int .i64 0), (Value.int .i64 0), (Value.int .i64 0), (Value.int .i64 0), (Value.int .i64 0), (Value.int .i64 0), (Value.bool false), (Value.bool false), (Value.bool false), (Value.bool false), (Value.bool false), (Value.slice none 0 0), (Value.slice none 0 0), (Value.slice none 0 0)]), (Value.int .i64 3)]) rfl rfl cb15 (Calls.into (n := 32) (al := [(Value.agg #[(Value.int .i64 2), (Value.string ByteArray.empty), (Value.string ByteArray.empty), (Value.string ByteArray.empty), (Value.int .i64 0), (Value.int .i64 0), (Value.int .i64 0), (Value.int .i64 0), (Value.int .i64 0), (Value.int .i64 0), (Value.int .i64 0), (Value.int .i64 0), (Value.int .i64 0), (Value.bool false), (Value.bool false), (Value.bool false), (Value.bool false), (Value.bool false), (Value.slice none 0 0), (Value.slice none 0 0), (Value.slice none 0 0)]), (Value.int .i64 3)]) Try.func15 rfl Try.ntmps15 rfl rfl ?_))
 refine C_seq (fun K3_ hK3_ => ?_)
 refine C_reg ?_
 refine S_list (T_box (v := (Value.agg #[(Value.int .i64 2), (Value.string ByteArray.empty), (Value.string ByteArray.empty), (Value.string ByteArray.empty), (Value.int .i64 0), (Value.int .i64 0), (Value.int .i64 0), (Value.int .i64 0), (Value.int .i64 0), (Value.int .i64 0), (Value.int .i64 0), (Value.int .i64 0), (Value.int .i64 0), (Value.bool false), (Value.bool false), (Value.bool false), (Value.bool false), (Value.bool false), (Value.slice none 0 0), (Value.slice none 0 0), (Value.slice none 0 0)])) rfl H ?_)
 intro b4_ w5_ S7_ H6_
 have S8_ := Same.trans (Same.refl w) S7_
 refine S_list (T_val (v := (Value.int .i64 0)) (x_assign rfl) ?_)
 refine wpList_nil ?_
 refine (X_then (hK3_ _ _ ?_))
 clear hK3_
 refine C_seq (fun K9_ hK9_ => ?_)
 refine C_seq (fun K10_ hK10_ => ?_)
 refine C_reg ?_
 refine S_list (T_val (v := (Value.pointer (some ⟨b4_, 0, none⟩))) (by kernel_rfl) ?_)
 refine S_list (T_val (v := (Value.int .i64 2)) (x_load1 rfl Try.underlying3 rfl ((Holds.rd H6_ 0 rfl) 0 (Value.int .i64 2) rfl)) ?_)
 refine wpList_nil ?_
 refine (X_then (hK10_ _ _ ?_))
 clear hK10_
 refine C_block ?_
 refine C_seq (fun K11_ hK11_ => ?_)
 refine C_reg ?_
 refine S_list (T_val (v := (Value.bool false)) (x_bin rfl rfl rfl) ?_)
 refine S_list (T_val (v := (Value.bool false)) (x_assign rfl) ?_)
 refine wpList_nil ?_
 refine (X_then (hK11_ _ _ ?_))
 clear hK11_
 refine C_condF rfl ?_
 refine C_seq (fun K12_ hK12_ => ?_)
 refine C_reg ?_
 refine S_list (T_val (v := (Value.bool true)) (x_bin rfl rfl rfl) ?_)
 refine S_list (T_val (v := (Value.bool true)) (x_assign rfl) ?_)
 refine wpList_nil ?_
 refine (X_then (hK12_ _ _ ?_))
 clear hK12_
 refine C_condT rfl ?_
 refine C_seq (fun K13_ hK13_ => ?_)
 refine C_reg ?_
 refine S_list (T_val (v := (Value.agg #[(Value.int .i64 2), (Value.string ByteArray.empty), (Value.string ByteArray.empty), (Value.string ByteArray.empty), (Value.int .i64 0), (Value.int .i64 0), (Value.int .i64 0), (Value.int .i64 0), (Value.int .i64 0), (Value.int .i64 0), (Value.int .i64 0), (Value.int .i64 0), (Value.int .i64 0), (Value.bool false), (Value.bool false), (Value.bool false), (Value.bool false), (Value.bool false), (Value.slice none 0 0), (Value.slice none 0 0), (Value.slice none 0 0)])) (x_loadN (vs := [(Value.int .i64 2), (Value.string ByteArray.empty), (Value.string ByteArray.empty), (Value.string ByteArray.empty), (Value.int .i64 0), (Value.int .i64 0), (Value.int .i64 0), (Value.int .i64 0), (Value.int .i64 0), (Value.int .i64 0), (Value.int .i64 0), (Value.int .i64 0), (Value.int .i64 0), (Value.bool false), (Value.bool false), (Value.bool false), (Value.bool false), (Value.bool false), (Value.slice none 0 0), (Value.slice none 0 0), (Value.slice none 0 0)]) rfl Try.underlying25 rfl z25 rfl (Rd.cells (Holds.rd H6_ 0 rfl) 0 rfl)) ?_)
 refine S_list (T_callW (al := [(Value.agg #[(Value.int .i64 2), (Value.string ByteArray.empty), (Value.string ByteArray.empty), (Value.string ByteArray.empty), (Value.int .i64 0), (Value.int .i64 0), (Value.int .i64 0), (Value.int .i64 0), (Value.int .i64 0), (Value.int .i64 0), (Value.int .i64 0), (Value.int .i64 0), (Value.int .i64 0), (Value.bool false), (Value.bool false), (Value.bool false), (Value.bool false), (Value.bool false), (Value.slice none 0 0), (Value.slice none 0 0), (Value.slice none 0 0)])]) rfl rfl cb44 (Calls.into (n := 19) (al := [(Value.agg #[(Value.int .i64 2), (Value.string ByteArray.empty), (Value.string ByteArray.empty), (Value.string ByteArray.empty), (Value.int .i64 0), (Value.int .i64 0), (Value.int .i64 0), (Value.int .i64 0), (Value.int .i64 0), (Value.int .i64 0), (Value.int .i64 0), (Value.int .i64 0), (Value.int .i64 0), (Value.bool false), (Value.bool false), (Value.bool false), (Value.bool false), (Value.bool false), (Value.slice none 0 0), (Value.slice none 0 0), (Value.slice none 0 0)])]) Try.func44 rfl Try.ntmps44 rfl rfl ?_))
 refine C_seq (fun K14_ hK14_ => ?_)
 refine C_reg ?_
 refine S_list (T_box (v := (Value.agg #[(Value.int .i64 2), (Value.string ByteArray.empty), (Value.string ByteArray.empty), (Value.string ByteArray.empty), (Value.int .i64 0), (Value.int .i64 0), (Value.int .i64 0), (Value.int .i64 0), (Value.int .i64 0), (Value.int .i64 0), (Value.int .i64 0), (Value.int .i64 0), (Value.int .i64 0), (Value.bool false), (Value.bool false), (Value.bool false), (Value.bool false), (Value.bool false), (Value.slice none 0 0), (Value.slice none 0 0), (Value.slice none 0 0)])) rfl H6_ ?_)
 intro b15_ w16_ S18_ H17_
 replace H17_ : Holds w16_ (cl b15_ 25 [(Value.int .i64 2), (Value.string ByteArray.empty), (Value.string ByteArray.empty), (Value.string ByteArray.empty), (Value.int .i64 0), (Value.int .i64 0), (Value.int .i64 0), (Value.int .i64 0), (Value.int .i64 0), (Value.int .i64 0), (Value.int .i64 0), (Value.int .i64 0), (Value.int .i64 0), (Value.bool false), (Value.bool false), (Value.bool false), (Value.bool false), (Value.bool false), (Value.slice none 0 0), (Value.slice none 0 0), (Value.slice none 0 0)] :: cl b4_ 25 [(Value.int .i64 2), (Value.string ByteArray.empty), (Value.string ByteArray.empty), (Value.string ByteArray.empty), (Value.int .i64 0), (Value.int .i64 0), (Value.int .i64 0), (Value.int .i64 0), (Value.int .i64 0), (Value.int .i64 0), (Value.int .i64 0), (Value.int .i64 0), (Value.int .i64 0), (Value.bool false), (Value.bool false), (Value.bool false), (Value.bool false), (Value.bool false), (Value.slice none 0 0), (Value.slice none 0 0), (Value.slice none 0 0)] :: ro R :: F) := H17_
 have S19_ := Same.trans S8_ S18_
 refine S_list (T_val (v := (Value.pointer none)) (x_assign rfl) ?_)
 refine wpList_nil ?_
 refine (X_then (hK14_ _ _ ?_))
 clear hK14_
 refine C_seq (fun K20_ hK20_ => ?_)
 refine C_reg ?_
 refine S_list (T_val (v := (Value.pointer (some ⟨b15_, 1, none⟩))) (by kernel_rfl) ?_)
 refine S_list (T_val (v := (Value.string ByteArray.empty)) (x_load1 rfl Try.underlying9 rfl ((Holds.rd H17_ 0 rfl) 1 (Value.string ByteArray.empty) rfl)) ?_)
 refine S_list (T_s2b rfl Try.underlying9 Try.underlying122 Try.underlying5 H17_ ?_)
 intro b21_ cp22_ w23_ S25_ hc26_ H24_
 have S27_ := Same.trans S19_ S25_
 have H28_ := Holds.resl H24_ 0 rfl (byteCells_bytesV _ : byteCells ByteArray.empty = bytesV (ints ByteArray.empty)) rfl
 have H29_ := Holds.resl H28_ 0 rfl (rfl : bytesV (ints ByteArray.empty) = bytesV (ints ByteArray.empty)) ((ints_length _).symm : ByteArray.empty.size = (List.length (ints ByteArray.empty)))
 refine S_list (T_val (v := (Value.pointer (some ⟨b15_, 3, none⟩))) (by kernel_rfl) ?_)
 refine S_list (T_val (v := (Value.string ByteArray.empty)) (x_load1 rfl Try.underlying9 rfl ((Holds.rd H29_ 1 rfl) 3 (Value.string ByteArray.empty) rfl)) ?_)
 refine S_list (T_s2b rfl Try.underlying9 Try.underlying122 Try.underlying5 H29_ ?_)
 intro b30_ cp31_ w32_ S34_ hc35_ H33_
 have S36_ := Same.trans S27_ S34_
 have H37_ := Holds.resl H33_ 0 rfl (byteCells_bytesV _ : byteCells ByteArray.empty = bytesV (ints ByteArray.empty)) rfl
 have H38_ := Holds.resl H37_ 0 rfl (rfl : bytesV (ints ByteArray.empty) = bytesV (ints ByteArray.empty)) ((ints_length _).symm : ByteArray.empty.size = (List.length (ints ByteArray.empty)))
 refine S_list (T_val (v := (Value.pointer (some ⟨b15_, 4, none⟩))) (by kernel_rfl) ?_)
 refine S_list (T_val (v := (Value.int .i64 0)) (x_load1 rfl Try.underlying2 rfl ((Holds.rd H38_ 2 rfl) 4 (Value.int .i64 0) rfl)) ?_)
 refine S_list (T_val (v := (Value.pointer (some ⟨b15_, 15, none⟩))) (by kernel_rfl) ?_)
 refine S_list (T_val (v := (Value.bool false)) (x_load1 rfl Try.underlying4 rfl ((Holds.rd H38_ 2 rfl) 15 (Value.bool false) rfl)) ?_)
 refine S_list (T_val (v := (Value.pointer (some ⟨b15_, 16, none⟩))) (by kernel_rfl) ?_)
 refine S_list (T_val (v := (Value.bool false)) (x_load1 rfl Try.underlying4 rfl ((Holds.rd H38_ 2 rfl) 16 (Value.bool false) rfl)) ?_)
 refine S_list (T_val (v := (Value.pointer (some ⟨b15_, 17, none⟩))) (by kernel_rfl) ?_)
 refine S_list (T_val (v := (Value.bool false)) (x_load1 rfl Try.underlying4 rfl ((Holds.rd H38_ 2 rfl) 17 (Value.bool false) rfl)) ?_)
 refine S_list (T_val (v := (Value.agg #[(Value.slice (some ⟨b21_, 0, none⟩) ByteArray.empty.size cp22_), (Value.slice (some ⟨b30_, 0, none⟩) ByteArray.empty.size cp31_), (Value.int .i64 0), (Value.bool false), (Value.bool false), (Value.bool false)])) (by kernel_rfl) ?_)
 refine S_list (T_box (v := (Value.agg #[(Value.slice (some ⟨b21_, 0, none⟩) ByteArray.empty.size cp22_), (Value.slice (some ⟨b30_, 0, none⟩) ByteArray.empty.size cp31_), (Value.int .i64 0), (Value.bool false), (Value.bool false), (Value.bool false)])) rfl H38_ ?_)
 intro b39_ w40_ S42_ H41_
 have S43_ := Same.trans S36_ S42_
 refine S_list (T_val (v := (Value.pointer (some ⟨b39_, 0, none⟩))) (x_assign rfl) ?_)
 refine wpList_nil ?_
 refine (X_then (hK20_ _ _ ?_))
 clear hK20_
 refine C_ret ?_
 refine R_any (v := (Value.pointer (some ⟨b39_, 0, none⟩))) (run_results1 rfl rfl) ⟨_, rfl, ?_⟩
 refine S_list (T_callW (al := [(Value.pointer (some ⟨b39_, 0, none⟩))]) rfl rfl cb43 (Calls.into (n := 5) (al := [(Value.pointer (some ⟨b39_, 0, none⟩))]) Try.func43 rfl Try.ntmps43 rfl rfl ?_))
 refine C_seq (fun K44_ hK44_ => ?_)
 refine C_reg ?_
 refine S_list (T_val (v := (Value.nilIface)) (x_assign rfl) ?_)
 refine wpList_nil ?_
 refine (X_then (hK44_ _ _ ?_))
 clear hK44_
 refine C_seq (fun K45_ hK45_ => ?_)
 refine C_reg ?_
 refine S_list (T_val (v := (Value.pointer (some ⟨b39_, 0, none⟩))) (x_move rfl) ?_)
 refine S_list (T_callW (al := [(Value.pointer (some ⟨b39_, 0, none⟩))]) rfl rfl cb69 (Calls.into (n := 35) (al := [(Value.pointer (some ⟨b39_, 0, none⟩))]) Try.func69 rfl Try.ntmps69 rfl rfl ?_))
 refine C_seq (fun K46_ hK46_ => ?_)
 refine C_reg ?_
 refine S_list (T_val (v := (Value.nilIface)) (x_assign rfl) ?_)
 refine wpList_nil ?_
 refine (X_then (hK46_ _ _ ?_))
 clear hK46_
 refine C_seq (fun K47_ hK47_ => ?_)
 refine C_seq (fun K48_ hK48_ => ?_)
 refine C_reg ?_
 refine S_list (T_val (v := (Value.pointer (some ⟨b39_, 0, none⟩))) (x_move rfl) ?_)
 refine S_list (T_val (v := (Value.pointer (some ⟨b39_, 0, none⟩))) (by kernel_rfl) ?_)
 refine S_list (T_val (v := (Value.pointer (some ⟨b39_, 0, none⟩))) (by kernel_rfl) ?_)
 refine S_list (T_val (v := (Value.slice (some ⟨b21_, 0, none⟩) ByteArray.empty.size cp22_)) (x_load1 rfl Try.underlying122 rfl ((Holds.rd H41_ 0 rfl) 0 (Value.slice (some ⟨b21_, 0, none⟩) ByteArray.empty.size cp22_) rfl)) ?_)
 refine S_list (T_val (v := (Value.int .i64 (ByteArray.empty.size : Int))) (x_lenS rfl Try.underlying122) ?_)
 refine S_list (T_val (v := (Value.bool (decide ((ByteArray.empty.size : Int) = 0)))) (x_bin rfl rfl rfl) ?_)
 refine wpList_nil ?_
 refine (X_then (hK48_ _ _ ?_))
 clear hK48_
 refine C_cond (b := decide ((ByteArray.empty.size : Int) = 0)) rfl (fun c49_t => ?_) (fun c49_f => ?_)
 ·have c49_tp : (ByteArray.empty.size : Int) = 0 := of_decide_eq_true c49_t
  refine C_seq (fun K50_ hK50_ => ?_)
  refine C_reg ?_
  refine S_list (T_val (v := (Value.iface 133 (Value.string (ByteArray.mk #[101, 116, 99, 100, 115, 101, 114, 118, 101, 114, 58, 32, 107, 101, 121, 32, 105, 115, 32, 110, 111, 116, 32, 112, 114, 111, 118, 105, 100, 101, 100])))) (by kernel_rfl) ?_)
  refine S_list (T_val (v := (Value.iface 133 (Value.string (ByteArray.mk #[101, 116, 99, 100, 115, 101, 114, 118, 101, 114, 58, 32, 107, 101, 121, 32, 105, 115, 32, 110, 111, 116, 32, 112, 114, 111, 118, 105, 100, 101, 100])))) (x_assign rfl) ?_)
  refine wpList_nil ?_
  refine (X_then (hK50_ _ _ ?_))
  clear hK50_
  refine C_ret (X_thenR ?_)
  refine R_any (v := (Value.iface 133 (Value.string (ByteArray.mk #[101, 116, 99, 100, 115, 101, 114, 118, 101, 114, 58, 32, 107, 101, 121, 32, 105, 115, 32, 110, 111, 116, 32, 112, 114, 111, 118, 105, 100, 101, 100])))) (run_results1 rfl rfl) ⟨_, rfl, ?_⟩
  refine S_list (T_val (v := (Value.iface 133 (Value.string (ByteArray.mk #[101, 116, 99, 100, 115, 101, 114, 118, 101, 114, 58, 32, 107, 101, 121, 32, 105, 115, 32, 110, 111, 116, 32, 112, 114, 111, 118, 105, 100, 101, 100])))) (x_assign rfl) ?_)
  refine wpList_nil ?_
  refine (X_then (hK45_ _ _ ?_))
  clear hK45_
  refine C_ret ?_
  refine R_any (v := (Value.iface 133 (Value.string (ByteArray.mk #[101, 116, 99, 100, 115, 101, 114, 118, 101, 114, 58, 32, 107, 101, 121, 32, 105, 115, 32, 110, 111, 116, 32, 112, 114, 111, 118, 105, 100, 101, 100])))) (run_results1 rfl rfl) ⟨_, rfl, ?_⟩
  refine S_list (T_callW (al := [(Value.iface 133 (Value.string (ByteArray.mk #[101, 116, 99, 100, 115, 101, 114, 118, 101, 114, 58, 32, 107, 101, 121, 32, 105, 115, 32, 110, 111, 116, 32, 112, 114, 111, 118, 105, 100, 101, 100])))]) rfl rfl cb40 (Calls.into (n := 27) (al := [(Value.iface 133 (Value.string (ByteArray.mk #[101, 116, 99, 100, 115, 101, 114, 118, 101, 114, 58, 32, 107, 101, 121, 32, 105, 115, 32, 110, 111, 116, 32, 112, 114, 111, 118, 105, 100, 101, 100])))]) Try.func40 rfl Try.ntmps40 rfl rfl ?_))
  refine C_seq (fun K51_ hK51_ => ?_)
  refine C_reg ?_
  refine S_list (T_val (v := (Value.int .i64 0)) (x_assign rfl) ?_)
  refine wpList_nil ?_
  refine (X_then (hK51_ _ _ ?_))
  clear hK51_
  refine C_seq (fun K52_ hK52_ => ?_)
  refine C_seq (fun K53_ hK53_ => ?_)
  refine C_reg ?_
  refine S_list (T_val (v := (Value.iface 133 (Value.string (ByteArray.mk #[101, 116, 99, 100, 115, 101, 114, 118, 101, 114, 58, 32, 107, 101, 121, 32, 105, 115, 32, 110, 111, 116, 32, 112, 114, 111, 118, 105, 100, 101, 100])))) (x_move rfl) ?_)
  refine wpList_nil ?_
  refine (X_then (hK53_ _ _ ?_))
  clear hK53_
  refine C_block ?_
  refine C_seq (fun K54_ hK54_ => ?_)
  refine C_reg ?_
  refine S_list (T_val (v := (Value.bool false)) (by kernel_rfl) ?_)
  refine S_list (T_val (v := (Value.bool false)) (x_assign rfl) ?_)
  refine wpList_nil ?_
  refine (X_then (hK54_ _ _ ?_))
  clear hK54_
  refine C_condF rfl ?_
  refine C_seq (fun K55_ hK55_ => ?_)
  refine C_reg ?_
  refine S_list (T_val (v := (Value.iface 133 (Value.string (ByteArray.mk #[101, 116, 99, 100, 115, 101, 114, 118, 101, 114, 58, 32, 107, 101, 121, 32, 105, 115, 32, 110, 111, 116, 32, 112, 114, 111, 118, 105, 100, 101, 100])))) (by kernel_rfl) ?_)
  refine S_list (T_val (v := (Value.bool true)) (x_cast (x_eqK rfl rfl Try.underlying84 (by kernel_rfl) Try.underlying133) (congrArg Value.bool (by simp only [toList_data]; decide))) ?_)
  refine S_list (T_val (v := (Value.bool true)) (x_assign rfl) ?_)
  refine wpList_nil ?_
  refine (X_then (hK55_ _ _ ?_))
  clear hK55_
  refine C_condT rfl ?_
  refine C_seq (fun K56_ hK56_ => ?_)
  refine C_reg ?_
  refine S_list (T_val (v := (Value.int .i64 1)) (x_assign rfl) ?_)
  refine wpList_nil ?_
  refine (X_then (hK56_ _ _ ?_))
  clear hK56_
  refine C_ret (X_blkR (X_thenR ?_))
  refine R_any (v := (Value.int .i64 1)) (run_results1 rfl rfl) ⟨_, rfl, ?_⟩
  refine S_list (T_val (v := (Value.int .i64 1)) (x_assign rfl) ?_)
  refine wpList_nil ?_
  refine (X_then (hK13_ _ _ ?_))
  clear hK13_
  refine C_ret (X_blkR (X_thenR ?_))
  refine R_any (v := (Value.int .i64 1)) (run_results1 rfl rfl) ⟨_, rfl, ?_⟩
  refine S_list (T_val (v := (Value.bool true)) (x_bin rfl rfl rfl) ?_)
  refine S_list (T_val (v := (Value.bool true)) (x_move rfl) ?_)
  refine S_yes (j := 3) (dj := 4) (b := true) rfl rfl rfl (T_val (v := (Value.agg #[(Value.int .i64 2), (Value.string (ByteArray.mk #[107])), (Value.string ByteArray.empty), (Value.string ByteArray.empty), (Value.int .i64 0), (Value.int .i64 0), (Value.int .i64 0), (Value.int .i64 0), (Value.int .i64 0), (Value.int .i64 0), (Value.int .i64 0), (Value.int .i64 0), (Value.int .i64 0), (Value.bool false), (Value.bool false), (Value.bool false), (Value.bool false), (Value.bool false), (Value.slice none 0 0), (Value.slice none 0 0), (Value.slice none 0 0)])) (by kernel_rfl) ?_)
  refine S_yes (j := 3) (dj := 4) (b := true) rfl rfl rfl (T_callW (al := [(Value.agg #[(Value.int .i64 2), (Value.string (ByteArray.mk #[107])), (Value.string ByteArray.empty), (Value.string ByteArray.empty), (Value.int .i64 0), (Value.int .i64 0), (Value.int .i64 0), (Value.int .i64 0), (Value.int .i64 0), (Value.int .i64 0), (Value.int .i64 0), (Value.int .i64 0), (Value.int .i64 0), (Value.bool false), (Value.bool false), (Value.bool false), (Value.bool false), (Value.bool false), (Value.slice none 0 0), (Value.slice none 0 0), (Value.slice none 0 0)]), (Value.int .i64 3)]) rfl rfl cb15 (Calls.into (n := 32) (al := [(Value.agg #[(Value.int .i64 2), (Value.string (ByteArray.mk #[107])), (Value.string ByteArray.empty), (Value.string ByteArray.empty), (Value.int .i64 0), (Value.int .i64 0), (Value.int .i64 0), (Value.int .i64 0), (Value.int .i64 0), (Value.int .i64 0), (Value.int .i64 0), (Value.int .i64 0), (Value.int .i64 0), (Value.bool false), (Value.bool false), (Value.bool false), (Value.bool false), (Value.bool false), (Value.slice none 0 0), (Value.slice none 0 0), (Value.slice none 0 0)]), (Value.int .i64 3)]) Try.func15 rfl Try.ntmps15 rfl rfl ?_))
  refine C_seq (fun K57_ hK57_ => ?_)
  refine C_reg ?_
  refine S_list (T_box (v := (Value.agg #[(Value.int .i64 2), (Value.string (ByteArray.mk #[107])), (Value.string ByteArray.empty), (Value.string ByteArray.empty), (Value.int .i64 0), (Value.int .i64 0), (Value.int .i64 0), (Value.int .i64 0), (Value.int .i64 0), (Value.int .i64 0), (Value.int .i64 0), (Value.int .i64 0), (Value.int .i64 0), (Value.bool false), (Value.bool false), (Value.bool false), (Value.bool false), (Value.bool false), (Value.slice none 0 0), (Value.slice none 0 0), (Value.slice none 0 0)])) rfl H41_ ?_)
  intro b58_ w59_ S61_ H60_
  have S62_ := Same.trans S43_ S61_
  refine S_list (T_val (v := (Value.int .i64 0)) (x_assign rfl) ?_)
  refine wpList_nil ?_
  refine (X_then (hK57_ _ _ ?_))
  clear hK57_
  refine C_seq (fun K63_ hK63_ => ?_)
  refine C_seq (fun K64_ hK64_ => ?_)
  refine C_reg ?_
  refine S_list (T_val (v := (Value.pointer (some ⟨b58_, 0, none⟩))) (by kernel_rfl) ?_)
  refine S_list (T_val (v := (Value.int .i64 2)) (x_load1 rfl Try.underlying3 rfl ((Holds.rd H60_ 0 rfl) 0 (Value.int .i64 2) rfl)) ?_)
  refine wpList_nil ?_
  refine (X_then (hK64_ _ _ ?_))
  clear hK64_
  refine C_block ?_
  refine C_seq (fun K65_ hK65_ => ?_)
  refine C_reg ?_
  refine S_list (T_val (v := (Value.bool false)) (x_bin rfl rfl rfl) ?_)
  refine S_list (T_val (v := (Value.bool false)) (x_assign rfl) ?_)
  refine wpList_nil ?_
  refine (X_then (hK65_ _ _ ?_))
  clear hK65_
  refine C_condF rfl ?_
  refine C_seq (fun K66_ hK66_ => ?_)
  refine C_reg ?_
  refine S_list (T_val (v := (Value.bool true)) (x_bin rfl rfl rfl) ?_)
  refine S_list (T_val (v := (Value.bool true)) (x_assign rfl) ?_)
  refine wpList_nil ?_
  refine (X_then (hK66_ _ _ ?_))
  clear hK66_
  refine C_condT rfl ?_
  refine C_seq (fun K67_ hK67_ => ?_)
  refine C_reg ?_
  refine S_list (T_val (v := (Value.agg #[(Value.int .i64 2), (Value.string (ByteArray.mk #[107])), (Value.string ByteArray.empty), (Value.string ByteArray.empty), (Value.int .i64 0), (Value.int .i64 0), (Value.int .i64 0), (Value.int .i64 0), (Value.int .i64 0), (Value.int .i64 0), (Value.int .i64 0), (Value.int .i64 0), (Value.int .i64 0), (Value.bool false), (Value.bool false), (Value.bool false), (Value.bool false), (Value.bool false), (Value.slice none 0 0), (Value.slice none 0 0), (Value.slice none 0 0)])) (x_loadN (vs := [(Value.int .i64 2), (Value.string (ByteArray.mk #[107])), (Value.string ByteArray.empty), (Value.string ByteArray.empty), (Value.int .i64 0), (Value.int .i64 0), (Value.int .i64 0), (Value.int .i64 0), (Value.int .i64 0), (Value.int .i64 0), (Value.int .i64 0), (Value.int .i64 0), (Value.int .i64 0), (Value.bool false), (Value.bool false), (Value.bool false), (Value.bool false), (Value.bool false), (Value.slice none 0 0), (Value.slice none 0 0), (Value.slice none 0 0)]) rfl Try.underlying25 rfl z25 rfl (Rd.cells (Holds.rd H60_ 0 rfl) 0 rfl)) ?_)
  refine S_list (T_callW (al := [(Value.agg #[(Value.int .i64 2), (Value.string (ByteArray.mk #[107])), (Value.string ByteArray.empty), (Value.string ByteArray.empty), (Value.int .i64 0), (Value.int .i64 0), (Value.int .i64 0), (Value.int .i64 0), (Value.int .i64 0), (Value.int .i64 0), (Value.int .i64 0), (Value.int .i64 0), (Value.int .i64 0), (Value.bool false), (Value.bool false), (Value.bool false), (Value.bool false), (Value.bool false), (Value.slice none 0 0), (Value.slice none 0 0), (Value.slice none 0 0)])]) rfl rfl cb44 (Calls.into (n := 19) (al := [(Value.agg #[(Value.int .i64 2), (Value.string (ByteArray.mk #[107])), (Value.string ByteArray.empty), (Value.string ByteArray.empty), (Value.int .i64 0), (Value.int .i64 0), (Value.int .i64 0), (Value.int .i64 0), (Value.int .i64 0), (Value.int .i64 0), (Value.int .i64 0), (Value.int .i64 0), (Value.int .i64 0), (Value.bool false), (Value.bool false), (Value.bool false), (Value.bool false), (Value.bool false), (Value.slice none 0 0), (Value.slice none 0 0), (Value.slice none 0 0)])]) Try.func44 rfl Try.ntmps44 rfl rfl ?_))
  refine C_seq (fun K68_ hK68_ => ?_)
  refine C_reg ?_
  refine S_list (T_box (v := (Value.agg #[(Value.int .i64 2), (Value.string (ByteArray.mk #[107])), (Value.string ByteArray.empty), (Value.string ByteArray.empty), (Value.int .i64 0), (Value.int .i64 0), (Value.int .i64 0), (Value.int .i64 0), (Value.int .i64 0), (Value.int .i64 0), (Value.int .i64 0), (Value.int .i64 0), (Value.int .i64 0), (Value.bool false), (Value.bool false), (Value.bool false), (Value.bool false), (Value.bool false), (Value.slice none 0 0), (Value.slice none 0 0), (Value.slice none 0 0)])) rfl H60_ ?_)
  intro b69_ w70_ S72_ H71_
  replace H71_ : Holds w70_ (cl b69_ 25 [(Value.int .i64 2), (Value.string (ByteArray.mk #[107])), (Value.string ByteArray.empty), (Value.string ByteArray.empty), (Value.int .i64 0), (Value.int .i64 0), (Value.int .i64 0), (Value.int .i64 0), (Value.int .i64 0), (Value.int .i64 0), (Value.int .i64 0), (Value.int .i64 0), (Value.int .i64 0), (Value.bool false), (Value.bool false), (Value.bool false), (Value.bool false), (Value.bool false), (Value.slice none 0 0), (Value.slice none 0 0), (Value.slice none 0 0)] :: cl b58_ 25 [(Value.int .i64 2), (Value.string (ByteArray.mk #[107])), (Value.string ByteArray.empty), (Value.string ByteArray.empty), (Value.int .i64 0), (Value.int .i64 0), (Value.int .i64 0), (Value.int .i64 0), (Value.int .i64 0), (Value.int .i64 0), (Value.int .i64 0), (Value.int .i64 0), (Value.int .i64 0), (Value.bool false), (Value.bool false), (Value.bool false), (Value.bool false), (Value.bool false), (Value.slice none 0 0), (Value.slice none 0 0), (Value.slice none 0 0)] :: cl b39_ 141 [(Value.slice (some ⟨b21_, 0, none⟩) ByteArray.empty.size cp22_), (Value.slice (some ⟨b30_, 0, none⟩) ByteArray.empty.size cp31_), (Value.int .i64 0), (Value.bool false), (Value.bool false), (Value.bool false)] :: sl 5 1 (Value.slice (some ⟨b30_, 0, none⟩) ByteArray.empty.size cp31_) (List.length (ints ByteArray.empty)) (bytesV (ints ByteArray.empty)) :: sl 5 1 (Value.slice (some ⟨b21_, 0, none⟩) ByteArray.empty.size cp22_) (List.length (ints ByteArray.empty)) (bytesV (ints ByteArray.empty)) :: cl b15_ 25 [(Value.int .i64 2), (Value.string ByteArray.empty), (Value.string ByteArray.empty), (Value.string ByteArray.empty), (Value.int .i64 0), (Value.int .i64 0), (Value.int .i64 0), (Value.int .i64 0), (Value.int .i64 0), (Value.int .i64 0), (Value.int .i64 0), (Value.int .i64 0), (Value.int .i64 0), (Value.bool false), (Value.bool false), (Value.bool false), (Value.bool false), (Value.bool false), (Value.slice none 0 0), (Value.slice none 0 0), (Value.slice none 0 0)] :: cl b4_ 25 [(Value.int .i64 2), (Value.string ByteArray.empty), (Value.string ByteArray.empty), (Value.string ByteArray.empty), (Value.int .i64 0), (Value.int .i64 0), (Value.int .i64 0), (Value.int .i64 0), (Value.int .i64 0), (Value.int .i64 0), (Value.int .i64 0), (Value.int .i64 0), (Value.int .i64 0), (Value.bool false), (Value.bool false), (Value.bool false), (Value.bool false), (Value.bool false), (Value.slice none 0 0), (Value.slice none 0 0), (Value.slice none 0 0)] :: ro R :: F) := H71_
  have S73_ := Same.trans S62_ S72_
  refine S_list (T_val (v := (Value.pointer none)) (x_assign rfl) ?_)
  refine wpList_nil ?_
  refine (X_then (hK68_ _ _ ?_))
  clear hK68_
  refine C_seq (fun K74_ hK74_ => ?_)
  refine C_reg ?_
  refine S_list (T_val (v := (Value.pointer (some ⟨b69_, 1, none⟩))) (by kernel_rfl) ?_)
  refine S_list (T_val (v := (Value.string (ByteArray.mk #[107]))) (x_load1 rfl Try.underlying9 rfl ((Holds.rd H71_ 0 rfl) 1 (Value.string (ByteArray.mk #[107])) rfl)) ?_)
  refine S_list (T_s2b rfl Try.underlying9 Try.underlying122 Try.underlying5 H71_ ?_)
  intro b75_ cp76_ w77_ S79_ hc80_ H78_
  have S81_ := Same.trans S73_ S79_
  have H82_ := Holds.resl H78_ 0 rfl (byteCells_bytesV _ : byteCells (ByteArray.mk #[107]) = bytesV (ints (ByteArray.mk #[107]))) rfl
  have H83_ := Holds.resl H82_ 0 rfl (rfl : bytesV (ints (ByteArray.mk #[107])) = bytesV (ints (ByteArray.mk #[107]))) ((ints_length _).symm : (ByteArray.mk #[107]).size = (List.length (ints (ByteArray.mk #[107]))))
  refine S_list (T_val (v := (Value.pointer (some ⟨b69_, 3, none⟩))) (by kernel_rfl) ?_)
  refine S_list (T_val (v := (Value.string ByteArray.empty)) (x_load1 rfl Try.underlying9 rfl ((Holds.rd H83_ 1 rfl) 3 (Value.string ByteArray.empty) rfl)) ?_)
  refine S_list (T_s2b rfl Try.underlying9 Try.underlying122 Try.underlying5 H83_ ?_)
  intro b84_ cp85_ w86_ S88_ hc89_ H87_
  have S90_ := Same.trans S81_ S88_
  have H91_ := Holds.resl H87_ 0 rfl (byteCells_bytesV _ : byteCells ByteArray.empty = bytesV (ints ByteArray.empty)) rfl
  have H92_ := Holds.resl H91_ 0 rfl (rfl : bytesV (ints ByteArray.empty) = bytesV (ints ByteArray.empty)) ((ints_length _).symm : ByteArray.empty.size = (List.length (ints ByteArray.empty)))
  refine S_list (T_val (v := (Value.pointer (some ⟨b69_, 4, none⟩))) (by kernel_rfl) ?_)
  refine S_list (T_val (v := (Value.int .i64 0)) (x_load1 rfl Try.underlying2 rfl ((Holds.rd H92_ 2 rfl) 4 (Value.int .i64 0) rfl)) ?_)
  refine S_list (T_val (v := (Value.pointer (some ⟨b69_, 15, none⟩))) (by kernel_rfl) ?_)
  refine S_list (T_val (v := (Value.bool false)) (x_load1 rfl Try.underlying4 rfl ((Holds.rd H92_ 2 rfl) 15 (Value.bool false) rfl)) ?_)
  refine S_list (T_val (v := (Value.pointer (some ⟨b69_, 16, none⟩))) (by kernel_rfl) ?_)
  refine S_list (T_val (v := (Value.bool false)) (x_load1 rfl Try.underlying4 rfl ((Holds.rd H92_ 2 rfl) 16 (Value.bool false) rfl)) ?_)
  refine S_list (T_val (v := (Value.pointer (some ⟨b69_, 17, none⟩))) (by kernel_rfl) ?_)
  refine S_list (T_val (v := (Value.bool false)) (x_load1 rfl Try.underlying4 rfl ((Holds.rd H92_ 2 rfl) 17 (Value.bool false) rfl)) ?_)
  refine S_list (T_val (v := (Value.agg #[(Value.slice (some ⟨b75_, 0, none⟩) ((ByteArray.mk #[107]).size) cp76_), (Value.slice (some ⟨b84_, 0, none⟩) ByteArray.empty.size cp85_), (Value.int .i64 0), (Value.bool false), (Value.bool false), (Value.bool false)])) (by kernel_rfl) ?_)
  refine S_list (T_box (v := (Value.agg #[(Value.slice (some ⟨b75_, 0, none⟩) ((ByteArray.mk #[107]).size) cp76_), (Value.slice (some ⟨b84_, 0, none⟩) ByteArray.empty.size cp85_), (Value.int .i64 0), (Value.bool false), (Value.bool false), (Value.bool false)])) rfl H92_ ?_)
  intro b93_ w94_ S96_ H95_
  have S97_ := Same.trans S90_ S96_
  refine S_list (T_val (v := (Value.pointer (some ⟨b93_, 0, none⟩))) (x_assign rfl) ?_)
  refine wpList_nil ?_
  refine (X_then (hK74_ _ _ ?_))
  clear hK74_
  refine C_ret ?_
  refine R_any (v := (Value.pointer (some ⟨b93_, 0, none⟩))) (run_results1 rfl rfl) ⟨_, rfl, ?_⟩
  refine S_list (T_callW (al := [(Value.pointer (some ⟨b93_, 0, none⟩))]) rfl rfl cb43 (Calls.into (n := 5) (al := [(Value.pointer (some ⟨b93_, 0, none⟩))]) Try.func43 rfl Try.ntmps43 rfl rfl ?_))
  refine C_seq (fun K98_ hK98_ => ?_)
  refine C_reg ?_
  refine S_list (T_val (v := (Value.nilIface)) (x_assign rfl) ?_)
  refine wpList_nil ?_
  refine (X_then (hK98_ _ _ ?_))
  clear hK98_
  refine C_seq (fun K99_ hK99_ => ?_)
  refine C_reg ?_
  refine S_list (T_val (v := (Value.pointer (some ⟨b93_, 0, none⟩))) (x_move rfl) ?_)
  refine S_list (T_callW (al := [(Value.pointer (some ⟨b93_, 0, none⟩))]) rfl rfl cb69 (Calls.into (n := 35) (al := [(Value.pointer (some ⟨b93_, 0, none⟩))]) Try.func69 rfl Try.ntmps69 rfl rfl ?_))
  refine C_seq (fun K100_ hK100_ => ?_)
  refine C_reg ?_
  refine S_list (T_val (v := (Value.nilIface)) (x_assign rfl) ?_)
  refine wpList_nil ?_
  refine (X_then (hK100_ _ _ ?_))
  clear hK100_
  refine C_seq (fun K101_ hK101_ => ?_)
  refine C_seq (fun K102_ hK102_ => ?_)
  refine C_reg ?_
  refine S_list (T_val (v := (Value.pointer (some ⟨b93_, 0, none⟩))) (x_move rfl) ?_)
  refine S_list (T_val (v := (Value.pointer (some ⟨b93_, 0, none⟩))) (by kernel_rfl) ?_)
  refine S_list (T_val (v := (Value.pointer (some ⟨b93_, 0, none⟩))) (by kernel_rfl) ?_)
  refine S_list (T_val (v := (Value.slice (some ⟨b75_, 0, none⟩) ((ByteArray.mk #[107]).size) cp76_)) (x_load1 rfl Try.underlying122 rfl ((Holds.rd H95_ 0 rfl) 0 (Value.slice (some ⟨b75_, 0, none⟩) ((ByteArray.mk #[107]).size) cp76_) rfl)) ?_)
  refine S_list (T_val (v := (Value.int .i64 ((ByteArray.mk #[107]).size : Int))) (x_lenS rfl Try.underlying122) ?_)
  refine S_list (T_val (v := (Value.bool (decide (((ByteArray.mk #[107]).size : Int) = 0)))) (x_bin rfl rfl rfl) ?_)
  refine wpList_nil ?_
  refine (X_then (hK102_ _ _ ?_))
  clear hK102_
  refine C_cond (b := decide (((ByteArray.mk #[107]).size : Int) = 0)) rfl (fun c103_t => ?_) (fun c103_f => ?_)
  ·have c103_tp : ((ByteArray.mk #[107]).size : Int) = 0 := of_decide_eq_true c103_t
   exact absurd c103_tp (by decide)
  ·have c103_fp : ¬ (((ByteArray.mk #[107]).size : Int) = 0) := of_decide_eq_false c103_f
   refine C_skip (X_then (hK101_ _ _ ?_))
   clear hK101_
   refine C_seq (fun K104_ hK104_ => ?_)
   refine C_seq (fun K105_ hK105_ => ?_)
   refine C_reg ?_
   refine S_list (T_val (v := (Value.pointer (some ⟨b93_, 0, none⟩))) (x_move rfl) ?_)
   refine S_list (T_val (v := (Value.pointer (some ⟨b93_, 0, none⟩))) (by kernel_rfl) ?_)
   refine S_list (T_val (v := (Value.pointer (some ⟨b93_, 4, none⟩))) (by kernel_rfl) ?_)
   refine S_list (T_val (v := (Value.bool false)) (x_load1 rfl Try.underlying4 rfl ((Holds.rd H95_ 0 rfl) 4 (Value.bool false) rfl)) ?_)
   refine S_list (T_val (v := (Value.bool false)) (x_move rfl) ?_)
   refine S_no (j := 4) (dj := 14) (b := false) rfl rfl rfl (by decide) ?_
   refine S_no (j := 4) (dj := 14) (b := false) rfl rfl rfl (by decide) ?_
   refine S_no (j := 4) (dj := 14) (b := false) rfl rfl rfl (by decide) ?_
   refine S_no (j := 4) (dj := 14) (b := false) rfl rfl rfl (by decide) ?_
   refine S_no (j := 4) (dj := 14) (b := false) rfl rfl rfl (by decide) ?_
   refine S_no (j := 4) (dj := 14) (b := false) rfl rfl rfl (by decide) ?_
   refine S_list (T_pickF (v := (Value.bool false)) rfl rfl ?_)
   refine wpList_nil ?_
   refine (X_then (hK105_ _ _ ?_))
   clear hK105_
   refine C_condF rfl ?_
   refine C_skip (X_then (hK104_ _ _ ?_))
   clear hK104_
   refine C_seq (fun K106_ hK106_ => ?_)
   refine C_seq (fun K107_ hK107_ => ?_)
   refine C_reg ?_
   refine S_list (T_val (v := (Value.pointer (some ⟨b93_, 0, none⟩))) (x_move rfl) ?_)
   refine S_list (T_val (v := (Value.pointer (some ⟨b93_, 0, none⟩))) (by kernel_rfl) ?_)
   refine S_list (T_val (v := (Value.pointer (some ⟨b93_, 5, none⟩))) (by kernel_rfl) ?_)
   refine S_list (T_val (v := (Value.bool false)) (x_load1 rfl Try.underlying4 rfl ((Holds.rd H95_ 0 rfl) 5 (Value.bool false) rfl)) ?_)
   refine S_list (T_val (v := (Value.bool false)) (x_move rfl) ?_)
   refine S_no (j := 4) (dj := 27) (b := false) rfl rfl rfl (by decide) ?_
   refine S_no (j := 4) (dj := 27) (b := false) rfl rfl rfl (by decide) ?_
   refine S_no (j := 4) (dj := 27) (b := false) rfl rfl rfl (by decide) ?_
   refine S_no (j := 4) (dj := 27) (b := false) rfl rfl rfl (by decide) ?_
   refine S_no (j := 4) (dj := 27) (b := false) rfl rfl rfl (by decide) ?_
   refine S_list (T_pickF (v := (Value.bool false)) rfl rfl ?_)
   refine wpList_nil ?_
   refine (X_then (hK107_ _ _ ?_))
   clear hK107_
   refine C_condF rfl ?_
   refine C_skip (X_then (hK106_ _ _ ?_))
   clear hK106_
   refine C_seq (fun K108_ hK108_ => ?_)
   refine C_reg ?_
   refine S_list (T_val (v := (Value.nilIface)) (x_assign rfl) ?_)
   refine wpList_nil ?_
   refine (X_then (hK108_ _ _ ?_))
   clear hK108_
   refine C_ret ?_
   refine R_any (v := (Value.nilIface)) (run_results1 rfl rfl) ⟨_, rfl, ?_⟩
   refine S_list (T_val (v := (Value.nilIface)) (x_assign rfl) ?_)
   refine wpList_nil ?_
   refine (X_then (hK99_ _ _ ?_))
   clear hK99_
   refine C_ret ?_
   refine R_any (v := (Value.nilIface)) (run_results1 rfl rfl) ⟨_, rfl, ?_⟩
   refine S_list (T_callW (al := [(Value.nilIface)]) rfl rfl cb40 (Calls.into (n := 27) (al := [(Value.nilIface)]) Try.func40 rfl Try.ntmps40 rfl rfl ?_))
   refine C_seq (fun K109_ hK109_ => ?_)
   refine C_reg ?_
   refine S_list (T_val (v := (Value.int .i64 0)) (x_assign rfl) ?_)
   refine wpList_nil ?_
   refine (X_then (hK109_ _ _ ?_))
   clear hK109_
   refine C_seq (fun K110_ hK110_ => ?_)
   refine C_seq (fun K111_ hK111_ => ?_)
   refine C_reg ?_
   refine S_list (T_val (v := (Value.nilIface)) (x_move rfl) ?_)
   refine wpList_nil ?_
   refine (X_then (hK111_ _ _ ?_))
   clear hK111_
   refine C_block ?_
   refine C_seq (fun K112_ hK112_ => ?_)
   refine C_reg ?_
   refine S_list (T_val (v := (Value.bool true)) (by kernel_rfl) ?_)
   refine S_list (T_val (v := (Value.bool true)) (x_assign rfl) ?_)
   refine wpList_nil ?_
   refine (X_then (hK112_ _ _ ?_))
   clear hK112_
   refine C_condT rfl ?_
   refine C_seq (fun K113_ hK113_ => ?_)
   refine C_reg ?_
   refine S_list (T_val (v := (Value.int .i64 0)) (x_assign rfl) ?_)
   refine wpList_nil ?_
   refine (X_then (hK113_ _ _ ?_))
   clear hK113_
   refine C_ret (X_blkR (X_thenR ?_))
   refine R_any (v := (Value.int .i64 0)) (run_results1 rfl rfl) ⟨_, rfl, ?_⟩
   refine S_list (T_val (v := (Value.int .i64 0)) (x_assign rfl) ?_)
   refine wpList_nil ?_
   refine (X_then (hK67_ _ _ ?_))
   clear hK67_
   refine C_ret (X_blkR (X_thenR ?_))
   refine R_any (v := (Value.int .i64 0)) (run_results1 rfl rfl) ⟨_, rfl, ?_⟩
   refine S_yes (j := 3) (dj := 4) (b := true) rfl rfl rfl (T_val (v := (Value.bool true)) (x_bin rfl rfl rfl) ?_)
   refine S_list (T_pickT (v := (Value.bool true)) rfl rfl ?_)
   refine S_list (T_val (v := (Value.bool true)) (x_assign rfl) ?_)
   refine wpList_nil ?_
   refine (X_then (hK2_ _ _ ?_))
   clear hK2_
   refine C_ret ?_
   refine R_any (v := (Value.bool true)) (run_results1 rfl rfl) ?_
   have H114_ : Holds w94_ (ro R :: F) := (Holds.pkF H95_ [10] 10 :)
   exact ⟨_, _, rfl, ⟨rfl, rfl⟩, S97_, H114_⟩
 ·have c49_fp : ¬ ((ByteArray.empty.size : Int) = 0) := of_decide_eq_false c49_f
  exact absurd (by decide) c49_fp
end Go.Proofs.Ytlnihndjepjagaa
