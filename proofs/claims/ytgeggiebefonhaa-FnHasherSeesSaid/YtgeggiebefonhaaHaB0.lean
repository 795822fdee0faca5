/- What is read of the bytes of a row's key. -/
import Derived.Test.YtgeggiebefonhaaHaA0
set_option linter.unusedVariables false
set_option linter.unusedSimpArgs false
namespace Go.Proofs.Ytgeggiebefonhaa
open Go Go.RowKit Gw

theorem i64_u64 {m : Int} (h : 0 ≤ m) (h2 : m < 9223372036854775808) : IntKind.i64.wrap (IntKind.u64.wrap m) = m := by
  rw [wrap_u64, show m % 18446744073709551616 = m by omega]; exact IntWalk.i64_in _ (by omega)

set_option maxHeartbeats 400000 in
theorem hU64 (R : HP) (v : Value) (x : Int) (n : Nat) (rest : List Int) (hV : RS R 1 v n (bytesV (be8 x ++ rest))) (h8 : 8 ≤ n) :
    Tri Try.prog 110 #[v] R [] (fun v__ post__ => v__ = (Value.int .u64 (IntKind.u64.wrap x)) ∧ post__ = []) := by
  have hx := u64_range x
  have hb0 := wrap_u8 (IntKind.u64.wrap x / 72057594037927936)
  have hb1 := wrap_u8 (IntKind.u64.wrap x / 281474976710656)
  have hb2 := wrap_u8 (IntKind.u64.wrap x / 1099511627776)
  have hb3 := wrap_u8 (IntKind.u64.wrap x / 4294967296)
  have hb4 := wrap_u8 (IntKind.u64.wrap x / 16777216)
  have hb5 := wrap_u8 (IntKind.u64.wrap x / 65536)
  have hb6 := wrap_u8 (IntKind.u64.wrap x / 256)
  have hb7 := wrap_u8 (IntKind.u64.wrap x)
  refine Tri.into (n := 18) (al := [v]) Try.func110 rfl Try.ntmps110 rfl rfl fun w F H => ?_
  replace H : Holds w (ro R :: F) := H
  refine C_seq (fun K1_ hK1_ => ?_)
  refine C_reg ?_
  refine S_list (T_val (v := (Value.int .u64 0)) (x_assign rfl) ?_)
  refine wpList_nil ?_
  refine (X_then (hK1_ _ _ ?_))
  clear hK1_
  refine C_seq (fun K2_ hK2_ => ?_)
  refine C_reg ?_
  refine S_list (T_val (v := (Value.int .u64 0)) (x_assign rfl) ?_)
  refine wpList_nil ?_
  refine (X_then (hK2_ _ _ ?_))
  clear hK2_
  refine C_seq (fun K3_ hK3_ => ?_)
  refine C_seq (fun K4_ hK4_ => ?_)
  refine C_reg ?_
  refine S_list (T_val (v := (Value.int .i64 0)) (x_assign rfl) ?_)
  refine wpList_nil ?_
  refine (X_then (hK4_ _ _ ?_))
  clear hK4_
  refine C_block ?_
  refine C_loopN 9 ?_
  refine C_rounds (fun K5_ hK5_ => ?_)
  refine C_seq (fun K6_ hK6_ => ?_)
  refine C_seq (fun K7_ hK7_ => ?_)
  refine C_reg ?_
  refine S_list (T_val (v := (Value.int .i64 0)) (x_move rfl) ?_)
  refine S_list (T_val (v := (Value.bool true)) (x_bin rfl rfl rfl) ?_)
  refine wpList_nil ?_
  refine (X_then (hK7_ _ _ ?_))
  clear hK7_
  refine C_condT rfl ?_
  refine C_skip (X_then (hK6_ _ _ ?_))
  clear hK6_
  refine C_seq (fun K8_ hK8_ => ?_)
  refine C_block ?_
  refine C_reg ?_
  refine S_list (T_val (v := (Value.int .u64 0)) (x_move rfl) ?_)
  refine S_list (T_val (v := (Value.int .u64 0)) (x_shl rfl rfl (by decide) (by decide)) ?_)
  refine S_list (T_val (v := v) (x_move rfl) ?_)
  refine S_list (T_val (v := (Value.int .i64 0)) (x_move rfl) ?_)
  refine S_list (T_val (v := (Value.pointer (some ⟨(sb v), so v + 0, none⟩))) (x_idxRS (v := v) rfl hV rfl Try.underlying43 z5 (by omega) (by omega) (by omega : _ = 0) (by rw [Nat.mul_one])) ?_)
  refine S_list (T_val (v := (Value.int .u8 (IntKind.u8.wrap (IntKind.u64.wrap x / 72057594037927936)))) (x_load1 rfl Try.underlying5 rfl (RC.cell (RS.rc hV) (Holds.ro_at H 0 rfl) (j := 0) (u := (Value.int .u8 (IntKind.u8.wrap (IntKind.u64.wrap x / 72057594037927936)))) ((map_at (rfl : (be8 x ++ rest)[0]? = some (IntKind.u8.wrap (IntKind.u64.wrap x / 72057594037927936))))))) ?_)
  refine S_list (T_val (v := (Value.int .u64 (IntKind.u64.wrap (IntKind.u8.wrap (IntKind.u64.wrap x / 72057594037927936))))) (x_convI rfl Try.underlying5 Try.underlying171 rfl) ?_)
  refine S_list (T_val (v := (Value.int .u64 (IntKind.u64.wrap x / 72057594037927936))) (x_bin rfl rfl ((by have h_ := or_byte (a := 0) (b := (IntKind.u8.wrap (IntKind.u64.wrap x / 72057594037927936))) (r := (IntKind.u64.wrap x / 72057594037927936)) (by omega) (by omega) (by omega) (by omega) (by omega); exact congrArg (fun z => some (Value.int .u64 z)) h_))) ?_)
  refine S_list (T_val (v := (Value.int .u64 (IntKind.u64.wrap x / 72057594037927936))) (x_assign rfl) ?_)
  refine wpList_nil ?_
  refine (X_blkN (X_then (hK8_ _ _ ?_)))
  clear hK8_
  refine C_reg ?_
  refine S_list (T_val (v := (Value.int .i64 0)) (x_move rfl) ?_)
  refine S_list (T_val (v := (Value.int .i64 1)) (x_bin rfl rfl (by rfl)) ?_)
  refine S_list (T_val (v := (Value.int .i64 1)) (x_assign rfl) ?_)
  refine wpList_nil ?_
  refine (X_then ?_)
  refine hK5_ _ _ ?_
  clear hK5_
  refine C_rounds (fun K9_ hK9_ => ?_)
  refine C_seq (fun K10_ hK10_ => ?_)
  refine C_seq (fun K11_ hK11_ => ?_)
  refine C_reg ?_
  refine S_list (T_val (v := (Value.int .i64 1)) (x_move rfl) ?_)
  refine S_list (T_val (v := (Value.bool true)) (x_bin rfl rfl rfl) ?_)
  refine wpList_nil ?_
  refine (X_then (hK11_ _ _ ?_))
  clear hK11_
  refine C_condT rfl ?_
  refine C_skip (X_then (hK10_ _ _ ?_))
  clear hK10_
  refine C_seq (fun K12_ hK12_ => ?_)
  refine C_block ?_
  refine C_reg ?_
  refine S_list (T_val (v := (Value.int .u64 (IntKind.u64.wrap x / 72057594037927936))) (x_move rfl) ?_)
  refine S_list (T_val (v := (Value.int .u64 (IntKind.u64.wrap ((IntKind.u64.wrap x / 72057594037927936) * 256)))) (x_shl rfl rfl (by omega) rfl) ?_)
  refine S_list (T_val (v := v) (x_move rfl) ?_)
  refine S_list (T_val (v := (Value.int .i64 1)) (x_move rfl) ?_)
  refine S_list (T_val (v := (Value.pointer (some ⟨(sb v), so v + 1, none⟩))) (x_idxRS (v := v) rfl hV rfl Try.underlying43 z5 (by omega) (by omega) (by omega : _ = 1) (by rw [Nat.mul_one])) ?_)
  refine S_list (T_val (v := (Value.int .u8 (IntKind.u8.wrap (IntKind.u64.wrap x / 281474976710656)))) (x_load1 rfl Try.underlying5 rfl (RC.cell (RS.rc hV) (Holds.ro_at H 0 rfl) (j := 1) (u := (Value.int .u8 (IntKind.u8.wrap (IntKind.u64.wrap x / 281474976710656)))) ((map_at (rfl : (be8 x ++ rest)[1]? = some (IntKind.u8.wrap (IntKind.u64.wrap x / 281474976710656))))))) ?_)
  refine S_list (T_val (v := (Value.int .u64 (IntKind.u64.wrap (IntKind.u8.wrap (IntKind.u64.wrap x / 281474976710656))))) (x_convI rfl Try.underlying5 Try.underlying171 rfl) ?_)
  refine S_list (T_val (v := (Value.int .u64 (IntKind.u64.wrap x / 281474976710656))) (x_bin rfl rfl ((by have h_ := or_byte (a := (IntKind.u64.wrap x / 72057594037927936)) (b := (IntKind.u8.wrap (IntKind.u64.wrap x / 281474976710656))) (r := (IntKind.u64.wrap x / 281474976710656)) (by omega) (by omega) (by omega) (by omega) (by omega); exact congrArg (fun z => some (Value.int .u64 z)) h_))) ?_)
  refine S_list (T_val (v := (Value.int .u64 (IntKind.u64.wrap x / 281474976710656))) (x_assign rfl) ?_)
  refine wpList_nil ?_
  refine (X_blkN (X_then (hK12_ _ _ ?_)))
  clear hK12_
  refine C_reg ?_
  refine S_list (T_val (v := (Value.int .i64 1)) (x_move rfl) ?_)
  refine S_list (T_val (v := (Value.int .i64 2)) (x_bin rfl rfl (by rfl)) ?_)
  refine S_list (T_val (v := (Value.int .i64 2)) (x_assign rfl) ?_)
  refine wpList_nil ?_
  refine (X_then ?_)
  refine hK9_ _ _ ?_
  clear hK9_
  refine C_rounds (fun K13_ hK13_ => ?_)
  refine C_seq (fun K14_ hK14_ => ?_)
  refine C_seq (fun K15_ hK15_ => ?_)
  refine C_reg ?_
  refine S_list (T_val (v := (Value.int .i64 2)) (x_move rfl) ?_)
  refine S_list (T_val (v := (Value.bool true)) (x_bin rfl rfl rfl) ?_)
  refine wpList_nil ?_
  refine (X_then (hK15_ _ _ ?_))
  clear hK15_
  refine C_condT rfl ?_
  refine C_skip (X_then (hK14_ _ _ ?_))
  clear hK14_
  refine C_seq (fun K16_ hK16_ => ?_)
  refine C_block ?_
  refine C_reg ?_
  refine S_list (T_val (v := (Value.int .u64 (IntKind.u64.wrap x / 281474976710656))) (x_move rfl) ?_)
  refine S_list (T_val (v := (Value.int .u64 (IntKind.u64.wrap ((IntKind.u64.wrap x / 281474976710656) * 256)))) (x_shl rfl rfl (by omega) rfl) ?_)
  refine S_list (T_val (v := v) (x_move rfl) ?_)
  refine S_list (T_val (v := (Value.int .i64 2)) (x_move rfl) ?_)
  refine S_list (T_val (v := (Value.pointer (some ⟨(sb v), so v + 2, none⟩))) (x_idxRS (v := v) rfl hV rfl Try.underlying43 z5 (by omega) (by omega) (by omega : _ = 2) (by rw [Nat.mul_one])) ?_)
  refine S_list (T_val (v := (Value.int .u8 (IntKind.u8.wrap (IntKind.u64.wrap x / 1099511627776)))) (x_load1 rfl Try.underlying5 rfl (RC.cell (RS.rc hV) (Holds.ro_at H 0 rfl) (j := 2) (u := (Value.int .u8 (IntKind.u8.wrap (IntKind.u64.wrap x / 1099511627776)))) ((map_at (rfl : (be8 x ++ rest)[2]? = some (IntKind.u8.wrap (IntKind.u64.wrap x / 1099511627776))))))) ?_)
  refine S_list (T_val (v := (Value.int .u64 (IntKind.u64.wrap (IntKind.u8.wrap (IntKind.u64.wrap x / 1099511627776))))) (x_convI rfl Try.underlying5 Try.underlying171 rfl) ?_)
  refine S_list (T_val (v := (Value.int .u64 (IntKind.u64.wrap x / 1099511627776))) (x_bin rfl rfl ((by have h_ := or_byte (a := (IntKind.u64.wrap x / 281474976710656)) (b := (IntKind.u8.wrap (IntKind.u64.wrap x / 1099511627776))) (r := (IntKind.u64.wrap x / 1099511627776)) (by omega) (by omega) (by omega) (by omega) (by omega); exact congrArg (fun z => some (Value.int .u64 z)) h_))) ?_)
  refine S_list (T_val (v := (Value.int .u64 (IntKind.u64.wrap x / 1099511627776))) (x_assign rfl) ?_)
  refine wpList_nil ?_
  refine (X_blkN (X_then (hK16_ _ _ ?_)))
  clear hK16_
  refine C_reg ?_
  refine S_list (T_val (v := (Value.int .i64 2)) (x_move rfl) ?_)
  refine S_list (T_val (v := (Value.int .i64 3)) (x_bin rfl rfl (by rfl)) ?_)
  refine S_list (T_val (v := (Value.int .i64 3)) (x_assign rfl) ?_)
  refine wpList_nil ?_
  refine (X_then ?_)
  refine hK13_ _ _ ?_
  clear hK13_
  refine C_rounds (fun K17_ hK17_ => ?_)
  refine C_seq (fun K18_ hK18_ => ?_)
  refine C_seq (fun K19_ hK19_ => ?_)
  refine C_reg ?_
  refine S_list (T_val (v := (Value.int .i64 3)) (x_move rfl) ?_)
  refine S_list (T_val (v := (Value.bool true)) (x_bin rfl rfl rfl) ?_)
  refine wpList_nil ?_
  refine (X_then (hK19_ _ _ ?_))
  clear hK19_
  refine C_condT rfl ?_
  refine C_skip (X_then (hK18_ _ _ ?_))
  clear hK18_
  refine C_seq (fun K20_ hK20_ => ?_)
  refine C_block ?_
  refine C_reg ?_
  refine S_list (T_val (v := (Value.int .u64 (IntKind.u64.wrap x / 1099511627776))) (x_move rfl) ?_)
  refine S_list (T_val (v := (Value.int .u64 (IntKind.u64.wrap ((IntKind.u64.wrap x / 1099511627776) * 256)))) (x_shl rfl rfl (by omega) rfl) ?_)
  refine S_list (T_val (v := v) (x_move rfl) ?_)
  refine S_list (T_val (v := (Value.int .i64 3)) (x_move rfl) ?_)
  refine S_list (T_val (v := (Value.pointer (some ⟨(sb v), so v + 3, none⟩))) (x_idxRS (v := v) rfl hV rfl Try.underlying43 z5 (by omega) (by omega) (by omega : _ = 3) (by rw [Nat.mul_one])) ?_)
  refine S_list (T_val (v := (Value.int .u8 (IntKind.u8.wrap (IntKind.u64.wrap x / 4294967296)))) (x_load1 rfl Try.underlying5 rfl (RC.cell (RS.rc hV) (Holds.ro_at H 0 rfl) (j := 3) (u := (Value.int .u8 (IntKind.u8.wrap (IntKind.u64.wrap x / 4294967296)))) ((map_at (rfl : (be8 x ++ rest)[3]? = some (IntKind.u8.wrap (IntKind.u64.wrap x / 4294967296))))))) ?_)
  refine S_list (T_val (v := (Value.int .u64 (IntKind.u64.wrap (IntKind.u8.wrap (IntKind.u64.wrap x / 4294967296))))) (x_convI rfl Try.underlying5 Try.underlying171 rfl) ?_)
  refine S_list (T_val (v := (Value.int .u64 (IntKind.u64.wrap x / 4294967296))) (x_bin rfl rfl ((by have h_ := or_byte (a := (IntKind.u64.wrap x / 1099511627776)) (b := (IntKind.u8.wrap (IntKind.u64.wrap x / 4294967296))) (r := (IntKind.u64.wrap x / 4294967296)) (by omega) (by omega) (by omega) (by omega) (by omega); exact congrArg (fun z => some (Value.int .u64 z)) h_))) ?_)
  refine S_list (T_val (v := (Value.int .u64 (IntKind.u64.wrap x / 4294967296))) (x_assign rfl) ?_)
  refine wpList_nil ?_
  refine (X_blkN (X_then (hK20_ _ _ ?_)))
  clear hK20_
  refine C_reg ?_
  refine S_list (T_val (v := (Value.int .i64 3)) (x_move rfl) ?_)
  refine S_list (T_val (v := (Value.int .i64 4)) (x_bin rfl rfl (by rfl)) ?_)
  refine S_list (T_val (v := (Value.int .i64 4)) (x_assign rfl) ?_)
  refine wpList_nil ?_
  refine (X_then ?_)
  refine hK17_ _ _ ?_
  clear hK17_
  refine C_rounds (fun K21_ hK21_ => ?_)
  refine C_seq (fun K22_ hK22_ => ?_)
  refine C_seq (fun K23_ hK23_ => ?_)
  refine C_reg ?_
  refine S_list (T_val (v := (Value.int .i64 4)) (x_move rfl) ?_)
  refine S_list (T_val (v := (Value.bool true)) (x_bin rfl rfl rfl) ?_)
  refine wpList_nil ?_
  refine (X_then (hK23_ _ _ ?_))
  clear hK23_
  refine C_condT rfl ?_
  refine C_skip (X_then (hK22_ _ _ ?_))
  clear hK22_
  refine C_seq (fun K24_ hK24_ => ?_)
  refine C_block ?_
  refine C_reg ?_
  refine S_list (T_val (v := (Value.int .u64 (IntKind.u64.wrap x / 4294967296))) (x_move rfl) ?_)
  refine S_list (T_val (v := (Value.int .u64 (IntKind.u64.wrap ((IntKind.u64.wrap x / 4294967296) * 256)))) (x_shl rfl rfl (by omega) rfl) ?_)
  refine S_list (T_val (v := v) (x_move rfl) ?_)
  refine S_list (T_val (v := (Value.int .i64 4)) (x_move rfl) ?_)
  refine S_list (T_val (v := (Value.pointer (some ⟨(sb v), so v + 4, none⟩))) (x_idxRS (v := v) rfl hV rfl Try.underlying43 z5 (by omega) (by omega) (by omega : _ = 4) (by rw [Nat.mul_one])) ?_)
  refine S_list (T_val (v := (Value.int .u8 (IntKind.u8.wrap (IntKind.u64.wrap x / 16777216)))) (x_load1 rfl Try.underlying5 rfl (RC.cell (RS.rc hV) (Holds.ro_at H 0 rfl) (j := 4) (u := (Value.int .u8 (IntKind.u8.wrap (IntKind.u64.wrap x / 16777216)))) ((map_at (rfl : (be8 x ++ rest)[4]? = some (IntKind.u8.wrap (IntKind.u64.wrap x / 16777216))))))) ?_)
  refine S_list (T_val (v := (Value.int .u64 (IntKind.u64.wrap (IntKind.u8.wrap (IntKind.u64.wrap x / 16777216))))) (x_convI rfl Try.underlying5 Try.underlying171 rfl) ?_)
  refine S_list (T_val (v := (Value.int .u64 (IntKind.u64.wrap x / 16777216))) (x_bin rfl rfl ((by have h_ := or_byte (a := (IntKind.u64.wrap x / 4294967296)) (b := (IntKind.u8.wrap (IntKind.u64.wrap x / 16777216))) (r := (IntKind.u64.wrap x / 16777216)) (by omega) (by omega) (by omega) (by omega) (by omega); exact congrArg (fun z => some (Value.int .u64 z)) h_))) ?_)
  refine S_list (T_val (v := (Value.int .u64 (IntKind.u64.wrap x / 16777216))) (x_assign rfl) ?_)
  refine wpList_nil ?_
  refine (X_blkN (X_then (hK24_ _ _ ?_)))
  clear hK24_
  refine C_reg ?_
  refine S_list (T_val (v := (Value.int .i64 4)) (x_move rfl) ?_)
  refine S_list (T_val (v := (Value.int .i64 5)) (x_bin rfl rfl (by rfl)) ?_)
  refine S_list (T_val (v := (Value.int .i64 5)) (x_assign rfl) ?_)
  refine wpList_nil ?_
  refine (X_then ?_)
  refine hK21_ _ _ ?_
  clear hK21_
  refine C_rounds (fun K25_ hK25_ => ?_)
  refine C_seq (fun K26_ hK26_ => ?_)
  refine C_seq (fun K27_ hK27_ => ?_)
  refine C_reg ?_
  refine S_list (T_val (v := (Value.int .i64 5)) (x_move rfl) ?_)
  refine S_list (T_val (v := (Value.bool true)) (x_bin rfl rfl rfl) ?_)
  refine wpList_nil ?_
  refine (X_then (hK27_ _ _ ?_))
  clear hK27_
  refine C_condT rfl ?_
  refine C_skip (X_then (hK26_ _ _ ?_))
  clear hK26_
  refine C_seq (fun K28_ hK28_ => ?_)
  refine C_block ?_
  refine C_reg ?_
  refine S_list (T_val (v := (Value.int .u64 (IntKind.u64.wrap x / 16777216))) (x_move rfl) ?_)
  refine S_list (T_val (v := (Value.int .u64 (IntKind.u64.wrap ((IntKind.u64.wrap x / 16777216) * 256)))) (x_shl rfl rfl (by omega) rfl) ?_)
  refine S_list (T_val (v := v) (x_move rfl) ?_)
  refine S_list (T_val (v := (Value.int .i64 5)) (x_move rfl) ?_)
  refine S_list (T_val (v := (Value.pointer (some ⟨(sb v), so v + 5, none⟩))) (x_idxRS (v := v) rfl hV rfl Try.underlying43 z5 (by omega) (by omega) (by omega : _ = 5) (by rw [Nat.mul_one])) ?_)
  refine S_list (T_val (v := (Value.int .u8 (IntKind.u8.wrap (IntKind.u64.wrap x / 65536)))) (x_load1 rfl Try.underlying5 rfl (RC.cell (RS.rc hV) (Holds.ro_at H 0 rfl) (j := 5) (u := (Value.int .u8 (IntKind.u8.wrap (IntKind.u64.wrap x / 65536)))) ((map_at (rfl : (be8 x ++ rest)[5]? = some (IntKind.u8.wrap (IntKind.u64.wrap x / 65536))))))) ?_)
  refine S_list (T_val (v := (Value.int .u64 (IntKind.u64.wrap (IntKind.u8.wrap (IntKind.u64.wrap x / 65536))))) (x_convI rfl Try.underlying5 Try.underlying171 rfl) ?_)
  refine S_list (T_val (v := (Value.int .u64 (IntKind.u64.wrap x / 65536))) (x_bin rfl rfl ((by have h_ := or_byte (a := (IntKind.u64.wrap x / 16777216)) (b := (IntKind.u8.wrap (IntKind.u64.wrap x / 65536))) (r := (IntKind.u64.wrap x / 65536)) (by omega) (by omega) (by omega) (by omega) (by omega); exact congrArg (fun z => some (Value.int .u64 z)) h_))) ?_)
  refine S_list (T_val (v := (Value.int .u64 (IntKind.u64.wrap x / 65536))) (x_assign rfl) ?_)
  refine wpList_nil ?_
  refine (X_blkN (X_then (hK28_ _ _ ?_)))
  clear hK28_
  refine C_reg ?_
  refine S_list (T_val (v := (Value.int .i64 5)) (x_move rfl) ?_)
  refine S_list (T_val (v := (Value.int .i64 6)) (x_bin rfl rfl (by rfl)) ?_)
  refine S_list (T_val (v := (Value.int .i64 6)) (x_assign rfl) ?_)
  refine wpList_nil ?_
  refine (X_then ?_)
  refine hK25_ _ _ ?_
  clear hK25_
  refine C_rounds (fun K29_ hK29_ => ?_)
  refine C_seq (fun K30_ hK30_ => ?_)
  refine C_seq (fun K31_ hK31_ => ?_)
  refine C_reg ?_
  refine S_list (T_val (v := (Value.int .i64 6)) (x_move rfl) ?_)
  refine S_list (T_val (v := (Value.bool true)) (x_bin rfl rfl rfl) ?_)
  refine wpList_nil ?_
  refine (X_then (hK31_ _ _ ?_))
  clear hK31_
  refine C_condT rfl ?_
  refine C_skip (X_then (hK30_ _ _ ?_))
  clear hK30_
  refine C_seq (fun K32_ hK32_ => ?_)
  refine C_block ?_
  refine C_reg ?_
  refine S_list (T_val (v := (Value.int .u64 (IntKind.u64.wrap x / 65536))) (x_move rfl) ?_)
  refine S_list (T_val (v := (Value.int .u64 (IntKind.u64.wrap ((IntKind.u64.wrap x / 65536) * 256)))) (x_shl rfl rfl (by omega) rfl) ?_)
  refine S_list (T_val (v := v) (x_move rfl) ?_)
  refine S_list (T_val (v := (Value.int .i64 6)) (x_move rfl) ?_)
  refine S_list (T_val (v := (Value.pointer (some ⟨(sb v), so v + 6, none⟩))) (x_idxRS (v := v) rfl hV rfl Try.underlying43 z5 (by omega) (by omega) (by omega : _ = 6) (by rw [Nat.mul_one])) ?_)
  refine S_list (T_val (v := (Value.int .u8 (IntKind.u8.wrap (IntKind.u64.wrap x / 256)))) (x_load1 rfl Try.underlying5 rfl (RC.cell (RS.rc hV) (Holds.ro_at H 0 rfl) (j := 6) (u := (Value.int .u8 (IntKind.u8.wrap (IntKind.u64.wrap x / 256)))) ((map_at (rfl : (be8 x ++ rest)[6]? = some (IntKind.u8.wrap (IntKind.u64.wrap x / 256))))))) ?_)
  refine S_list (T_val (v := (Value.int .u64 (IntKind.u64.wrap (IntKind.u8.wrap (IntKind.u64.wrap x / 256))))) (x_convI rfl Try.underlying5 Try.underlying171 rfl) ?_)
  refine S_list (T_val (v := (Value.int .u64 (IntKind.u64.wrap x / 256))) (x_bin rfl rfl ((by have h_ := or_byte (a := (IntKind.u64.wrap x / 65536)) (b := (IntKind.u8.wrap (IntKind.u64.wrap x / 256))) (r := (IntKind.u64.wrap x / 256)) (by omega) (by omega) (by omega) (by omega) (by omega); exact congrArg (fun z => some (Value.int .u64 z)) h_))) ?_)
  refine S_list (T_val (v := (Value.int .u64 (IntKind.u64.wrap x / 256))) (x_assign rfl) ?_)
  refine wpList_nil ?_
  refine (X_blkN (X_then (hK32_ _ _ ?_)))
  clear hK32_
  refine C_reg ?_
  refine S_list (T_val (v := (Value.int .i64 6)) (x_move rfl) ?_)
  refine S_list (T_val (v := (Value.int .i64 7)) (x_bin rfl rfl (by rfl)) ?_)
  refine S_list (T_val (v := (Value.int .i64 7)) (x_assign rfl) ?_)
  refine wpList_nil ?_
  refine (X_then ?_)
  refine hK29_ _ _ ?_
  clear hK29_
  refine C_rounds (fun K33_ hK33_ => ?_)
  refine C_seq (fun K34_ hK34_ => ?_)
  refine C_seq (fun K35_ hK35_ => ?_)
  refine C_reg ?_
  refine S_list (T_val (v := (Value.int .i64 7)) (x_move rfl) ?_)
  refine S_list (T_val (v := (Value.bool true)) (x_bin rfl rfl rfl) ?_)
  refine wpList_nil ?_
  refine (X_then (hK35_ _ _ ?_))
  clear hK35_
  refine C_condT rfl ?_
  refine C_skip (X_then (hK34_ _ _ ?_))
  clear hK34_
  refine C_seq (fun K36_ hK36_ => ?_)
  refine C_block ?_
  refine C_reg ?_
  refine S_list (T_val (v := (Value.int .u64 (IntKind.u64.wrap x / 256))) (x_move rfl) ?_)
  refine S_list (T_val (v := (Value.int .u64 (IntKind.u64.wrap ((IntKind.u64.wrap x / 256) * 256)))) (x_shl rfl rfl (by omega) rfl) ?_)
  refine S_list (T_val (v := v) (x_move rfl) ?_)
  refine S_list (T_val (v := (Value.int .i64 7)) (x_move rfl) ?_)
  refine S_list (T_val (v := (Value.pointer (some ⟨(sb v), so v + 7, none⟩))) (x_idxRS (v := v) rfl hV rfl Try.underlying43 z5 (by omega) (by omega) (by omega : _ = 7) (by rw [Nat.mul_one])) ?_)
  refine S_list (T_val (v := (Value.int .u8 (IntKind.u8.wrap (IntKind.u64.wrap x)))) (x_load1 rfl Try.underlying5 rfl (RC.cell (RS.rc hV) (Holds.ro_at H 0 rfl) (j := 7) (u := (Value.int .u8 (IntKind.u8.wrap (IntKind.u64.wrap x)))) ((map_at (rfl : (be8 x ++ rest)[7]? = some (IntKind.u8.wrap (IntKind.u64.wrap x))))))) ?_)
  refine S_list (T_val (v := (Value.int .u64 (IntKind.u64.wrap (IntKind.u8.wrap (IntKind.u64.wrap x))))) (x_convI rfl Try.underlying5 Try.underlying171 rfl) ?_)
  refine S_list (T_val (v := (Value.int .u64 (IntKind.u64.wrap x))) (x_bin rfl rfl ((by have h_ := or_byte (a := (IntKind.u64.wrap x / 256)) (b := (IntKind.u8.wrap (IntKind.u64.wrap x))) (r := IntKind.u64.wrap x) (by omega) (by omega) (by omega) (by omega) (by omega); exact congrArg (fun z => some (Value.int .u64 z)) h_))) ?_)
  refine S_list (T_val (v := (Value.int .u64 (IntKind.u64.wrap x))) (x_assign rfl) ?_)
  refine wpList_nil ?_
  refine (X_blkN (X_then (hK36_ _ _ ?_)))
  clear hK36_
  refine C_reg ?_
  refine S_list (T_val (v := (Value.int .i64 7)) (x_move rfl) ?_)
  refine S_list (T_val (v := (Value.int .i64 8)) (x_bin rfl rfl (by rfl)) ?_)
  refine S_list (T_val (v := (Value.int .i64 8)) (x_assign rfl) ?_)
  refine wpList_nil ?_
  refine (X_then ?_)
  refine hK33_ _ _ ?_
  clear hK33_
  refine C_rounds (fun K37_ hK37_ => ?_)
  refine C_seq (fun K38_ hK38_ => ?_)
  refine C_seq (fun K39_ hK39_ => ?_)
  refine C_reg ?_
  refine S_list (T_val (v := (Value.int .i64 8)) (x_move rfl) ?_)
  refine S_list (T_val (v := (Value.bool false)) (x_bin rfl rfl rfl) ?_)
  refine wpList_nil ?_
  refine (X_then (hK39_ _ _ ?_))
  clear hK39_
  refine C_condF rfl ?_
  refine C_exit (X_thenX (X_thenX (X_blkHit ?_)))
  refine (X_then (hK3_ _ _ ?_))
  clear hK3_
  refine C_seq (fun K40_ hK40_ => ?_)
  refine C_reg ?_
  refine S_list (T_val (v := (Value.int .u64 (IntKind.u64.wrap x))) (x_move rfl) ?_)
  refine S_list (T_val (v := (Value.int .u64 (IntKind.u64.wrap x))) (x_assign rfl) ?_)
  refine wpList_nil ?_
  refine (X_then (hK40_ _ _ ?_))
  clear hK40_
  refine C_ret ?_
  refine R_any (v := (Value.int .u64 (IntKind.u64.wrap x))) (run_results1 rfl rfl) ?_
  exact ⟨_, [], rfl, ⟨rfl, rfl⟩, (Same.refl w), H⟩

set_option maxHeartbeats 400000 in
theorem hBack_false (R : HP) (v : Value) (m s : Int) (hV : RS R 1 v 17 (bytesV (rkey m s false))) (hm0 : 0 ≤ m) (hm1 : m < 9223372036854775808) (hs0 : 0 ≤ s) (hs1 : s < 9223372036854775808) :
    Tri Try.prog 95 #[v] R [] (fun v__ post__ => v__ = (Value.agg #[(Value.int .i64 m), (Value.int .i64 s), (Value.bool false)]) ∧ post__ = []) := by
  refine Tri.into (n := 40) (al := [v]) Try.func95 rfl Try.ntmps95 rfl rfl fun w F H => ?_
  replace H : Holds w (ro R :: F) := H
  refine C_seq (fun K1_ hK1_ => ?_)
  refine C_reg ?_
  refine S_list (T_alloc z161 H ?_)
  intro b2_ w3_ S5_ H4_
  replace H4_ : Holds w3_ (cl b2_ 161 [(Value.int .i64 0), (Value.int .i64 0), (Value.bool false)] :: ro R :: F) := H4_
  have S6_ := Same.trans (Same.refl w) S5_
  refine wpList_nil ?_
  refine (X_then (hK1_ _ _ ?_))
  clear hK1_
  refine C_seq (fun K7_ hK7_ => ?_)
  refine C_seq (fun K8_ hK8_ => ?_)
  refine C_reg ?_
  refine S_list (T_val (v := v) (x_move rfl) ?_)
  refine S_list (T_val (v := (Value.int .i64 17)) (x_lenRS rfl hV Try.underlying43) ?_)
  refine S_list (T_val (v := (Value.bool false)) (x_bin rfl rfl rfl) ?_)
  refine S_list (T_val (v := (Value.bool false)) (x_move rfl) ?_)
  refine S_no (j := 3) (dj := 8) (b := false) rfl rfl rfl (by decide) ?_
  refine S_no (j := 3) (dj := 8) (b := false) rfl rfl rfl (by decide) ?_
  refine S_no (j := 3) (dj := 8) (b := false) rfl rfl rfl (by decide) ?_
  refine S_list (T_pickF (v := (Value.bool false)) rfl rfl ?_)
  refine wpList_nil ?_
  refine (X_then (hK8_ _ _ ?_))
  clear hK8_
  refine C_condF rfl ?_
  refine C_skip (X_then (hK7_ _ _ ?_))
  clear hK7_
  refine C_seq (fun K9_ hK9_ => ?_)
  refine C_seq (fun K10_ hK10_ => ?_)
  refine C_reg ?_
  refine S_list (T_val (v := v) (x_move rfl) ?_)
  refine S_list (T_val (v := (Value.pointer (some ⟨(sb v), so v + 8, none⟩))) (x_idxRS (v := v) rfl hV rfl Try.underlying43 z5 (by omega) (by omega) (by omega : _ = 8) (by rw [Nat.mul_one])) ?_)
  refine S_list (T_val (v := (Value.int .u8 95)) (x_load1 rfl Try.underlying5 rfl (RC.cell (RS.rc hV) (Holds.ro_at H4_ 1 rfl) (j := 8) (u := (Value.int .u8 95)) ((map_at (rfl : (rkey m s false)[8]? = some 95))))) ?_)
  refine S_list (T_val (v := (Value.bool false)) (x_bin rfl rfl rfl) ?_)
  refine wpList_nil ?_
  refine (X_then (hK10_ _ _ ?_))
  clear hK10_
  refine C_condF rfl ?_
  refine C_skip (X_then (hK9_ _ _ ?_))
  clear hK9_
  refine C_seq (fun K11_ hK11_ => ?_)
  refine C_reg ?_
  refine S_list (T_val (v := v) (x_move rfl) ?_)
  refine S_list (T_val (v := (slc v 0 8 1)) (x_sliceRS (l := 0) (h := 8) rfl hV Try.underlying43 z5 (by omega) ⟨_, _, rfl, by omega, by omega, by omega⟩ ⟨_, _, rfl, by omega, by omega, by omega⟩) ?_)
  have H13_ : Holds w3_ (ro R :: cl b2_ 161 [(Value.int .i64 0), (Value.int .i64 0), (Value.bool false)] :: F) := (Holds.bring H4_ 1 rfl)
  refine S_list (T_call (al := [((slc v 0 8 1))]) (pre := []) (F := cl b2_ 161 [(Value.int .i64 0), (Value.int .i64 0), (Value.bool false)] :: F) rfl (lcons (rfl : (slc v 0 8 1) = ((slc v 0 8 1))) rfl) cb110 (hU64 R (slc v 0 8 1) m (8 - 0) ([] : List Int) (RS.set_ (RS.slcB hV (by omega : 0 ≤ 8) (by omega : 8 ≤ 17)) (by first | rfl | omega | (simp; done) | (simp; omega)) rfl) (by first | assumption | omega)) H13_ ?_)
  rintro v12_ p17_ w14_ ⟨rfl, rfl⟩ S16_ H15_
  replace H15_ : Holds w14_ (ro R :: cl b2_ 161 [(Value.int .i64 0), (Value.int .i64 0), (Value.bool false)] :: F) := H15_
  have S18_ := Same.trans S6_ S16_
  refine S_list (T_val (v := (Value.int .i64 m)) (x_convI rfl Try.underlying171 Try.underlying2 (i64_u64 hm0 hm1)) ?_)
  refine S_list (T_val (v := (Value.int .i64 m)) (x_assign rfl) ?_)
  refine wpList_nil ?_
  refine (X_then (hK11_ _ _ ?_))
  clear hK11_
  refine C_seq (fun K19_ hK19_ => ?_)
  refine C_reg ?_
  refine S_list (T_val (v := v) (x_move rfl) ?_)
  refine S_list (T_val (v := (slc v 9 17 1)) (x_sliceRS (l := 9) (h := 17) rfl hV Try.underlying43 z5 (by omega) rfl ⟨_, _, rfl, by omega, by omega, by omega⟩) ?_)
  refine S_list (T_call (al := [((slc v 9 17 1))]) (pre := []) (F := cl b2_ 161 [(Value.int .i64 0), (Value.int .i64 0), (Value.bool false)] :: F) rfl (lcons (rfl : (slc v 9 17 1) = ((slc v 9 17 1))) rfl) cb110 (hU64 R (slc v 9 17 1) s (17 - 9) ([] : List Int) (RS.set_ (RS.slcB hV (by omega : 9 ≤ 17) (by omega : 17 ≤ 17)) (by first | rfl | omega | (simp; done) | (simp; omega)) rfl) (by first | assumption | omega)) H15_ ?_)
  rintro v20_ p24_ w21_ ⟨rfl, rfl⟩ S23_ H22_
  replace H22_ : Holds w21_ (ro R :: cl b2_ 161 [(Value.int .i64 0), (Value.int .i64 0), (Value.bool false)] :: F) := H22_
  have S25_ := Same.trans S18_ S23_
  refine S_list (T_val (v := (Value.int .i64 s)) (x_convI rfl Try.underlying171 Try.underlying2 (i64_u64 hs0 hs1)) ?_)
  refine S_list (T_val (v := (Value.int .i64 s)) (x_assign rfl) ?_)
  refine wpList_nil ?_
  refine (X_then (hK19_ _ _ ?_))
  clear hK19_
  refine C_seq (fun K26_ hK26_ => ?_)
  refine C_seq (fun K27_ hK27_ => ?_)
  refine C_reg ?_
  refine S_list (T_val (v := (Value.int .i64 m)) (x_move rfl) ?_)
  refine S_list (T_val (v := (Value.bool (decide (m < 0)))) (x_bin rfl rfl rfl) ?_)
  refine S_list (T_val (v := (Value.bool (decide (m < 0)))) (x_move rfl) ?_)
  rcases Bool.eq_false_or_eq_true (decide (m < 0)) with c28_t | c28_f
  · have c28_tp : m < 0 := of_decide_eq_true c28_t
    omega
  · have c28_fp : ¬ (m < 0) := of_decide_eq_false c28_f
    refine S_yes (j := 2) (dj := 29) (b := false) rfl rfl (congrArg Value.bool c28_f) (T_val (v := (Value.int .i64 s)) (x_move rfl) ?_)
    refine S_yes (j := 2) (dj := 29) (b := false) rfl rfl (congrArg Value.bool c28_f) (T_val (v := (Value.bool (decide (s < 0)))) (x_bin rfl rfl rfl) ?_)
    refine S_list (T_pickF (v := (Value.bool (decide (s < 0)))) (congrArg Value.bool c28_f) rfl ?_)
    refine wpList_nil ?_
    refine (X_then (hK27_ _ _ ?_))
    clear hK27_
    refine C_cond (b := decide (s < 0)) rfl (fun c29_t => ?_) (fun c29_f => ?_)
    · have c29_tp : s < 0 := of_decide_eq_true c29_t
      omega
    · have c29_fp : ¬ (s < 0) := of_decide_eq_false c29_f
      refine C_skip (X_then (hK26_ _ _ ?_))
      clear hK26_
      refine C_seq (fun K30_ hK30_ => ?_)
      refine C_reg ?_
      refine S_list (T_val (v := (Value.int .i64 m)) (x_move rfl) ?_)
      refine S_list (T_val (v := (Value.int .i64 s)) (x_move rfl) ?_)
      refine S_list (T_val (v := (Value.agg #[(Value.int .i64 m), (Value.int .i64 s)])) (by kernel_rfl) ?_)
      refine S_list (T_val (v := v) (x_move rfl) ?_)
      refine S_list (T_callW (al := [v]) rfl rfl cb111 (Calls.into (n := 12) (al := [v]) Try.func111 rfl Try.ntmps111 rfl rfl ?_))
      refine C_seq (fun K31_ hK31_ => ?_)
      refine C_reg ?_
      refine S_list (T_val (v := (Value.bool false)) (x_assign rfl) ?_)
      refine wpList_nil ?_
      refine (X_then (hK31_ _ _ ?_))
      clear hK31_
      refine C_seq (fun K32_ hK32_ => ?_)
      refine C_reg ?_
      refine S_list (T_val (v := v) (x_move rfl) ?_)
      refine S_list (T_val (v := (Value.int .i64 17)) (x_lenRS rfl hV Try.underlying43) ?_)
      refine S_list (T_val (v := (Value.bool false)) (x_bin rfl rfl rfl) ?_)
      refine S_list (T_val (v := (Value.bool false)) (x_move rfl) ?_)
      refine S_no (j := 3) (dj := 6) (b := false) rfl rfl rfl (by decide) ?_
      refine S_no (j := 3) (dj := 6) (b := false) rfl rfl rfl (by decide) ?_
      refine S_no (j := 3) (dj := 6) (b := false) rfl rfl rfl (by decide) ?_
      refine S_no (j := 3) (dj := 6) (b := false) rfl rfl rfl (by decide) ?_
      refine S_list (T_pickF (v := (Value.bool false)) rfl rfl ?_)
      refine S_list (T_val (v := (Value.bool false)) (x_assign rfl) ?_)
      refine wpList_nil ?_
      refine (X_then (hK32_ _ _ ?_))
      clear hK32_
      refine C_ret ?_
      refine R_any (v := (Value.bool false)) (run_results1 rfl rfl) ⟨_, rfl, ?_⟩
      refine S_list (T_val (v := (Value.agg #[(Value.int .i64 m), (Value.int .i64 s), (Value.bool false)])) (by kernel_rfl) ?_)
      refine S_list0 (T_storeN (vs := [(Value.int .i64 m), (Value.int .i64 s), (Value.bool false)]) rfl rfl z161 rfl (by simp [Value.oneCell']) H22_ 1 rfl (Nat.le_of_ble_eq_true (by rfl)) ?_)
      intro w33_ S35_ H34_
      replace H34_ : Holds w33_ (ro R :: cl b2_ 161 [(Value.int .i64 m), (Value.int .i64 s), (Value.bool false)] :: F) := H34_
      have S36_ := Same.trans S25_ S35_
      refine wpList_nil ?_
      refine (X_then (hK30_ _ _ ?_))
      clear hK30_
      refine C_ret ?_
      refine R_any (v := (Value.agg #[(Value.int .i64 m), (Value.int .i64 s), (Value.bool false)])) (run_results1 rfl ⟨_, rfl, load_resN Try.underlying161 rfl z161 rfl (vs := [(Value.int .i64 m), (Value.int .i64 s), (Value.bool false)]) (Holds.cl_cells H34_ 1 rfl 0 rfl)⟩) ?_
      have H37_ : Holds w33_ (ro R :: F) := (Holds.erase (Holds.bring H34_ 0 rfl) 1)
      exact ⟨_, [], rfl, ⟨rfl, rfl⟩, S36_, H37_⟩

set_option maxHeartbeats 400000 in
theorem hBack_true (R : HP) (v : Value) (m s : Int) (hV : RS R 1 v 18 (bytesV (rkey m s true))) (hm0 : 0 ≤ m) (hm1 : m < 9223372036854775808) (hs0 : 0 ≤ s) (hs1 : s < 9223372036854775808) :
    Tri Try.prog 95 #[v] R [] (fun v__ post__ => v__ = (Value.agg #[(Value.int .i64 m), (Value.int .i64 s), (Value.bool true)]) ∧ post__ = []) := by
  refine Tri.into (n := 40) (al := [v]) Try.func95 rfl Try.ntmps95 rfl rfl fun w F H => ?_
  replace H : Holds w (ro R :: F) := H
  refine C_seq (fun K1_ hK1_ => ?_)
  refine C_reg ?_
  refine S_list (T_alloc z161 H ?_)
  intro b2_ w3_ S5_ H4_
  replace H4_ : Holds w3_ (cl b2_ 161 [(Value.int .i64 0), (Value.int .i64 0), (Value.bool false)] :: ro R :: F) := H4_
  have S6_ := Same.trans (Same.refl w) S5_
  refine wpList_nil ?_
  refine (X_then (hK1_ _ _ ?_))
  clear hK1_
  refine C_seq (fun K7_ hK7_ => ?_)
  refine C_seq (fun K8_ hK8_ => ?_)
  refine C_reg ?_
  refine S_list (T_val (v := v) (x_move rfl) ?_)
  refine S_list (T_val (v := (Value.int .i64 18)) (x_lenRS rfl hV Try.underlying43) ?_)
  refine S_list (T_val (v := (Value.bool true)) (x_bin rfl rfl rfl) ?_)
  refine S_list (T_val (v := (Value.bool true)) (x_move rfl) ?_)
  refine S_yes (j := 3) (dj := 8) (b := true) rfl rfl rfl (T_val (v := v) (x_move rfl) ?_)
  refine S_yes (j := 3) (dj := 8) (b := true) rfl rfl rfl (T_val (v := (Value.int .i64 18)) (x_lenRS rfl hV Try.underlying43) ?_)
  refine S_yes (j := 3) (dj := 8) (b := true) rfl rfl rfl (T_val (v := (Value.bool false)) (x_bin rfl rfl rfl) ?_)
  refine S_list (T_pickT (v := (Value.bool false)) rfl rfl ?_)
  refine wpList_nil ?_
  refine (X_then (hK8_ _ _ ?_))
  clear hK8_
  refine C_condF rfl ?_
  refine C_skip (X_then (hK7_ _ _ ?_))
  clear hK7_
  refine C_seq (fun K9_ hK9_ => ?_)
  refine C_seq (fun K10_ hK10_ => ?_)
  refine C_reg ?_
  refine S_list (T_val (v := v) (x_move rfl) ?_)
  refine S_list (T_val (v := (Value.pointer (some ⟨(sb v), so v + 8, none⟩))) (x_idxRS (v := v) rfl hV rfl Try.underlying43 z5 (by omega) (by omega) (by omega : _ = 8) (by rw [Nat.mul_one])) ?_)
  refine S_list (T_val (v := (Value.int .u8 95)) (x_load1 rfl Try.underlying5 rfl (RC.cell (RS.rc hV) (Holds.ro_at H4_ 1 rfl) (j := 8) (u := (Value.int .u8 95)) ((map_at (rfl : (rkey m s true)[8]? = some 95))))) ?_)
  refine S_list (T_val (v := (Value.bool false)) (x_bin rfl rfl rfl) ?_)
  refine wpList_nil ?_
  refine (X_then (hK10_ _ _ ?_))
  clear hK10_
  refine C_condF rfl ?_
  refine C_skip (X_then (hK9_ _ _ ?_))
  clear hK9_
  refine C_seq (fun K11_ hK11_ => ?_)
  refine C_reg ?_
  refine S_list (T_val (v := v) (x_move rfl) ?_)
  refine S_list (T_val (v := (slc v 0 8 1)) (x_sliceRS (l := 0) (h := 8) rfl hV Try.underlying43 z5 (by omega) ⟨_, _, rfl, by omega, by omega, by omega⟩ ⟨_, _, rfl, by omega, by omega, by omega⟩) ?_)
  have H13_ : Holds w3_ (ro R :: cl b2_ 161 [(Value.int .i64 0), (Value.int .i64 0), (Value.bool false)] :: F) := (Holds.bring H4_ 1 rfl)
  refine S_list (T_call (al := [((slc v 0 8 1))]) (pre := []) (F := cl b2_ 161 [(Value.int .i64 0), (Value.int .i64 0), (Value.bool false)] :: F) rfl (lcons (rfl : (slc v 0 8 1) = ((slc v 0 8 1))) rfl) cb110 (hU64 R (slc v 0 8 1) m (8 - 0) ([] : List Int) (RS.set_ (RS.slcB hV (by omega : 0 ≤ 8) (by omega : 8 ≤ 18)) (by first | rfl | omega | (simp; done) | (simp; omega)) rfl) (by first | assumption | omega)) H13_ ?_)
  rintro v12_ p17_ w14_ ⟨rfl, rfl⟩ S16_ H15_
  replace H15_ : Holds w14_ (ro R :: cl b2_ 161 [(Value.int .i64 0), (Value.int .i64 0), (Value.bool false)] :: F) := H15_
  have S18_ := Same.trans S6_ S16_
  refine S_list (T_val (v := (Value.int .i64 m)) (x_convI rfl Try.underlying171 Try.underlying2 (i64_u64 hm0 hm1)) ?_)
  refine S_list (T_val (v := (Value.int .i64 m)) (x_assign rfl) ?_)
  refine wpList_nil ?_
  refine (X_then (hK11_ _ _ ?_))
  clear hK11_
  refine C_seq (fun K19_ hK19_ => ?_)
  refine C_reg ?_
  refine S_list (T_val (v := v) (x_move rfl) ?_)
  refine S_list (T_val (v := (slc v 9 18 1)) (x_sliceRS (l := 9) (h := 18) rfl hV Try.underlying43 z5 (by omega) rfl ⟨_, _, rfl, by omega, by omega, by omega⟩) ?_)
  refine S_list (T_call (al := [((slc v 9 18 1))]) (pre := []) (F := cl b2_ 161 [(Value.int .i64 0), (Value.int .i64 0), (Value.bool false)] :: F) rfl (lcons (rfl : (slc v 9 18 1) = ((slc v 9 18 1))) rfl) cb110 (hU64 R (slc v 9 18 1) s (18 - 9) [116] (RS.set_ (RS.slcB hV (by omega : 9 ≤ 18) (by omega : 18 ≤ 18)) (by first | rfl | omega | (simp; done) | (simp; omega)) rfl) (by first | assumption | omega)) H15_ ?_)
  rintro v20_ p24_ w21_ ⟨rfl, rfl⟩ S23_ H22_
  replace H22_ : Holds w21_ (ro R :: cl b2_ 161 [(Value.int .i64 0), (Value.int .i64 0), (Value.bool false)] :: F) := H22_
  have S25_ := Same.trans S18_ S23_
  refine S_list (T_val (v := (Value.int .i64 s)) (x_convI rfl Try.underlying171 Try.underlying2 (i64_u64 hs0 hs1)) ?_)
  refine S_list (T_val (v := (Value.int .i64 s)) (x_assign rfl) ?_)
  refine wpList_nil ?_
  refine (X_then (hK19_ _ _ ?_))
  clear hK19_
  refine C_seq (fun K26_ hK26_ => ?_)
  refine C_seq (fun K27_ hK27_ => ?_)
  refine C_reg ?_
  refine S_list (T_val (v := (Value.int .i64 m)) (x_move rfl) ?_)
  refine S_list (T_val (v := (Value.bool (decide (m < 0)))) (x_bin rfl rfl rfl) ?_)
  refine S_list (T_val (v := (Value.bool (decide (m < 0)))) (x_move rfl) ?_)
  rcases Bool.eq_false_or_eq_true (decide (m < 0)) with c28_t | c28_f
  · have c28_tp : m < 0 := of_decide_eq_true c28_t
    omega
  · have c28_fp : ¬ (m < 0) := of_decide_eq_false c28_f
    refine S_yes (j := 2) (dj := 29) (b := false) rfl rfl (congrArg Value.bool c28_f) (T_val (v := (Value.int .i64 s)) (x_move rfl) ?_)
    refine S_yes (j := 2) (dj := 29) (b := false) rfl rfl (congrArg Value.bool c28_f) (T_val (v := (Value.bool (decide (s < 0)))) (x_bin rfl rfl rfl) ?_)
    refine S_list (T_pickF (v := (Value.bool (decide (s < 0)))) (congrArg Value.bool c28_f) rfl ?_)
    refine wpList_nil ?_
    refine (X_then (hK27_ _ _ ?_))
    clear hK27_
    refine C_cond (b := decide (s < 0)) rfl (fun c29_t => ?_) (fun c29_f => ?_)
    · have c29_tp : s < 0 := of_decide_eq_true c29_t
      omega
    · have c29_fp : ¬ (s < 0) := of_decide_eq_false c29_f
      refine C_skip (X_then (hK26_ _ _ ?_))
      clear hK26_
      refine C_seq (fun K30_ hK30_ => ?_)
      refine C_reg ?_
      refine S_list (T_val (v := (Value.int .i64 m)) (x_move rfl) ?_)
      refine S_list (T_val (v := (Value.int .i64 s)) (x_move rfl) ?_)
      refine S_list (T_val (v := (Value.agg #[(Value.int .i64 m), (Value.int .i64 s)])) (by kernel_rfl) ?_)
      refine S_list (T_val (v := v) (x_move rfl) ?_)
      refine S_list (T_callW (al := [v]) rfl rfl cb111 (Calls.into (n := 12) (al := [v]) Try.func111 rfl Try.ntmps111 rfl rfl ?_))
      refine C_seq (fun K31_ hK31_ => ?_)
      refine C_reg ?_
      refine S_list (T_val (v := (Value.bool false)) (x_assign rfl) ?_)
      refine wpList_nil ?_
      refine (X_then (hK31_ _ _ ?_))
      clear hK31_
      refine C_seq (fun K32_ hK32_ => ?_)
      refine C_reg ?_
      refine S_list (T_val (v := v) (x_move rfl) ?_)
      refine S_list (T_val (v := (Value.int .i64 18)) (x_lenRS rfl hV Try.underlying43) ?_)
      refine S_list (T_val (v := (Value.bool true)) (x_bin rfl rfl rfl) ?_)
      refine S_list (T_val (v := (Value.bool true)) (x_move rfl) ?_)
      refine S_yes (j := 3) (dj := 6) (b := true) rfl rfl rfl (T_val (v := v) (x_move rfl) ?_)
      refine S_yes (j := 3) (dj := 6) (b := true) rfl rfl rfl (T_val (v := (Value.pointer (some ⟨(sb v), so v + 17, none⟩))) (x_idxRS (v := v) rfl hV rfl Try.underlying43 z5 (by omega) (by omega) (by omega : _ = 17) (by rw [Nat.mul_one])) ?_)
      refine S_yes (j := 3) (dj := 6) (b := true) rfl rfl rfl (T_val (v := (Value.int .u8 116)) (x_load1 rfl Try.underlying5 rfl (RC.cell (RS.rc hV) (Holds.ro_at H22_ 0 rfl) (j := 17) (u := (Value.int .u8 116)) ((map_at (rfl : (rkey m s true)[17]? = some 116))))) ?_)
      refine S_yes (j := 3) (dj := 6) (b := true) rfl rfl rfl (T_val (v := (Value.bool true)) (x_bin rfl rfl rfl) ?_)
      refine S_list (T_pickT (v := (Value.bool true)) rfl rfl ?_)
      refine S_list (T_val (v := (Value.bool true)) (x_assign rfl) ?_)
      refine wpList_nil ?_
      refine (X_then (hK32_ _ _ ?_))
      clear hK32_
      refine C_ret ?_
      refine R_any (v := (Value.bool true)) (run_results1 rfl rfl) ⟨_, rfl, ?_⟩
      refine S_list (T_val (v := (Value.agg #[(Value.int .i64 m), (Value.int .i64 s), (Value.bool true)])) (by kernel_rfl) ?_)
      refine S_list0 (T_storeN (vs := [(Value.int .i64 m), (Value.int .i64 s), (Value.bool true)]) rfl rfl z161 rfl (by simp [Value.oneCell']) H22_ 1 rfl (Nat.le_of_ble_eq_true (by rfl)) ?_)
      intro w33_ S35_ H34_
      replace H34_ : Holds w33_ (ro R :: cl b2_ 161 [(Value.int .i64 m), (Value.int .i64 s), (Value.bool true)] :: F) := H34_
      have S36_ := Same.trans S25_ S35_
      refine wpList_nil ?_
      refine (X_then (hK30_ _ _ ?_))
      clear hK30_
      refine C_ret ?_
      refine R_any (v := (Value.agg #[(Value.int .i64 m), (Value.int .i64 s), (Value.bool true)])) (run_results1 rfl ⟨_, rfl, load_resN Try.underlying161 rfl z161 rfl (vs := [(Value.int .i64 m), (Value.int .i64 s), (Value.bool true)]) (Holds.cl_cells H34_ 1 rfl 0 rfl)⟩) ?_
      have H37_ : Holds w33_ (ro R :: F) := (Holds.erase (Holds.bring H34_ 0 rfl) 1)
      exact ⟨_, [], rfl, ⟨rfl, rfl⟩, S36_, H37_⟩

theorem hBack (R : HP) (v : Value) (m s : Int) (t : Bool) (hV : RS R 1 v (rkey m s t).length (bytesV (rkey m s t))) (hm0 : 0 ≤ m) (hm1 : m < 9223372036854775808) (hs0 : 0 ≤ s) (hs1 : s < 9223372036854775808) :
    Tri Try.prog 95 #[v] R [] (fun v__ post__ => v__ = (Value.agg #[(Value.int .i64 m), (Value.int .i64 s), (Value.bool t)]) ∧ post__ = []) := by
  cases t
  · exact hBack_false R v m s hV hm0 hm1 hs0 hs1
  · exact hBack_true R v m s hV hm0 hm1 hs0 hs1
end Go.Proofs.Ytgeggiebefonhaa
