/- What the bytes of a row's key come to. -/
import Derived.Test.YtgeggiebefonhaaHaD
set_option linter.unusedVariables false
set_option linter.unusedSimpArgs false
namespace Go.Proofs.Ytgeggiebefonhaa
open Go Go.RowKit Gw

set_option maxHeartbeats 400000 in
theorem hPutA (R : HP) (b : Nat) (x : Int) (c0 c1 c2 c3 c4 c5 c6 c7 c8 c9 c10 c11 c12 c13 c14 c15 c16 c17 : Value) :
    Tri Try.prog 109 #[(Value.slice (some ⟨b, 0, none⟩) 17 18), (Value.int .u64 x)] R [cl b 5 [c0, c1, c2, c3, c4, c5, c6, c7, c8, c9, c10, c11, c12, c13, c14, c15, c16, c17]] (fun v__ post__ => v__ = (Value.tuple #[]) ∧ post__ = [cl b 5 [(Value.int .u8 (IntKind.u8.wrap (x / 72057594037927936))), (Value.int .u8 (IntKind.u8.wrap (x / 281474976710656))), (Value.int .u8 (IntKind.u8.wrap (x / 1099511627776))), (Value.int .u8 (IntKind.u8.wrap (x / 4294967296))), (Value.int .u8 (IntKind.u8.wrap (x / 16777216))), (Value.int .u8 (IntKind.u8.wrap (x / 65536))), (Value.int .u8 (IntKind.u8.wrap (x / 256))), (Value.int .u8 (IntKind.u8.wrap x)), c8, c9, c10, c11, c12, c13, c14, c15, c16, c17]]) := by
  refine Tri.into (n := 19) (al := [(Value.slice (some ⟨b, 0, none⟩) 17 18), (Value.int .u64 x)]) Try.func109 rfl Try.ntmps109 rfl rfl fun w F H => ?_
  replace H : Holds w (ro R :: cl b 5 [c0, c1, c2, c3, c4, c5, c6, c7, c8, c9, c10, c11, c12, c13, c14, c15, c16, c17] :: F) := H
  refine C_seq (fun K1_ hK1_ => ?_)
  refine C_reg ?_
  refine S_list (T_val (v := (Value.int .i64 0)) (x_assign rfl) ?_)
  refine wpList_nil ?_
  refine (X_then (hK1_ _ _ ?_))
  clear hK1_
  refine C_block ?_
  refine C_loopN 9 ?_
  refine C_rounds (fun K2_ hK2_ => ?_)
  refine C_seq (fun K3_ hK3_ => ?_)
  refine C_seq (fun K4_ hK4_ => ?_)
  refine C_reg ?_
  refine S_list (T_val (v := (Value.int .i64 0)) (x_move rfl) ?_)
  refine S_list (T_val (v := (Value.bool true)) (x_bin rfl rfl rfl) ?_)
  refine wpList_nil ?_
  refine (X_then (hK4_ _ _ ?_))
  clear hK4_
  refine C_condT rfl ?_
  refine C_skip (X_then (hK3_ _ _ ?_))
  clear hK3_
  refine C_seq (fun K5_ hK5_ => ?_)
  refine C_block ?_
  refine C_reg ?_
  refine S_list (T_val (v := (Value.slice (some ⟨b, 0, none⟩) 17 18)) (x_move rfl) ?_)
  refine S_list (T_val (v := (Value.int .i64 0)) (x_move rfl) ?_)
  refine S_list (T_val (v := (Value.int .u64 x)) (x_move rfl) ?_)
  refine S_list (T_val (v := (Value.int .i64 0)) (x_move rfl) ?_)
  refine S_list (T_val (v := (Value.int .i64 7)) (x_bin rfl rfl (by rfl)) ?_)
  refine S_list (T_val (v := (Value.int .u64 7)) (x_convI rfl Try.underlying3 Try.underlying170 (by decide)) ?_)
  refine S_list (T_val (v := (Value.int .u64 56)) (x_bin rfl rfl (by rfl)) ?_)
  refine S_list (T_val (v := (Value.int .u64 (x / 72057594037927936))) (x_shr rfl rfl (by omega) (shrN (by decide) (by decide))) ?_)
  refine S_list (T_val (v := (Value.int .u8 (IntKind.u8.wrap (x / 72057594037927936)))) (x_convI rfl Try.underlying171 Try.underlying5 rfl) ?_)
  refine S_list (T_val (v := (Value.pointer (some ⟨b, 0, none⟩))) (x_indexAddr rfl rfl Try.underlying43 z5 (by omega) (by omega) (by omega : _ = 0) (by first | rfl | simp | (congr 1; omega))) ?_)
  refine S_list0 (T_store1 (v := (Value.int .u8 (IntKind.u8.wrap (x / 72057594037927936)))) rfl rfl z5 rfl H 1 rfl (Nat.le_of_ble_eq_true (by rfl)) ?_)
  intro w6_ S8_ H7_
  replace H7_ : Holds w6_ (ro R :: cl b 5 [(Value.int .u8 (IntKind.u8.wrap (x / 72057594037927936))), c1, c2, c3, c4, c5, c6, c7, c8, c9, c10, c11, c12, c13, c14, c15, c16, c17] :: F) := H7_
  have S9_ := Same.trans (Same.refl w) S8_
  refine wpList_nil ?_
  refine (X_blkN (X_then (hK5_ _ _ ?_)))
  clear hK5_
  refine C_reg ?_
  refine S_list (T_val (v := (Value.int .i64 0)) (x_move rfl) ?_)
  refine S_list (T_val (v := (Value.int .i64 1)) (x_bin rfl rfl (by rfl)) ?_)
  refine S_list (T_val (v := (Value.int .i64 1)) (x_assign rfl) ?_)
  refine wpList_nil ?_
  refine (X_then ?_)
  refine hK2_ _ _ ?_
  clear hK2_
  refine C_rounds (fun K10_ hK10_ => ?_)
  refine C_seq (fun K11_ hK11_ => ?_)
  refine C_seq (fun K12_ hK12_ => ?_)
  refine C_reg ?_
  refine S_list (T_val (v := (Value.int .i64 1)) (x_move rfl) ?_)
  refine S_list (T_val (v := (Value.bool true)) (x_bin rfl rfl rfl) ?_)
  refine wpList_nil ?_
  refine (X_then (hK12_ _ _ ?_))
  clear hK12_
  refine C_condT rfl ?_
  refine C_skip (X_then (hK11_ _ _ ?_))
  clear hK11_
  refine C_seq (fun K13_ hK13_ => ?_)
  refine C_block ?_
  refine C_reg ?_
  refine S_list (T_val (v := (Value.slice (some ⟨b, 0, none⟩) 17 18)) (x_move rfl) ?_)
  refine S_list (T_val (v := (Value.int .i64 1)) (x_move rfl) ?_)
  refine S_list (T_val (v := (Value.int .u64 x)) (x_move rfl) ?_)
  refine S_list (T_val (v := (Value.int .i64 1)) (x_move rfl) ?_)
  refine S_list (T_val (v := (Value.int .i64 6)) (x_bin rfl rfl (by rfl)) ?_)
  refine S_list (T_val (v := (Value.int .u64 6)) (x_convI rfl Try.underlying3 Try.underlying170 (by decide)) ?_)
  refine S_list (T_val (v := (Value.int .u64 48)) (x_bin rfl rfl (by rfl)) ?_)
  refine S_list (T_val (v := (Value.int .u64 (x / 281474976710656))) (x_shr rfl rfl (by omega) (shrN (by decide) (by decide))) ?_)
  refine S_list (T_val (v := (Value.int .u8 (IntKind.u8.wrap (x / 281474976710656)))) (x_convI rfl Try.underlying171 Try.underlying5 rfl) ?_)
  refine S_list (T_val (v := (Value.pointer (some ⟨b, 1, none⟩))) (x_indexAddr rfl rfl Try.underlying43 z5 (by omega) (by omega) (by omega : _ = 1) (by first | rfl | simp | (congr 1; omega))) ?_)
  refine S_list0 (T_store1 (v := (Value.int .u8 (IntKind.u8.wrap (x / 281474976710656)))) rfl rfl z5 rfl H7_ 1 rfl (Nat.le_of_ble_eq_true (by rfl)) ?_)
  intro w14_ S16_ H15_
  replace H15_ : Holds w14_ (ro R :: cl b 5 [(Value.int .u8 (IntKind.u8.wrap (x / 72057594037927936))), (Value.int .u8 (IntKind.u8.wrap (x / 281474976710656))), c2, c3, c4, c5, c6, c7, c8, c9, c10, c11, c12, c13, c14, c15, c16, c17] :: F) := H15_
  have S17_ := Same.trans S9_ S16_
  refine wpList_nil ?_
  refine (X_blkN (X_then (hK13_ _ _ ?_)))
  clear hK13_
  refine C_reg ?_
  refine S_list (T_val (v := (Value.int .i64 1)) (x_move rfl) ?_)
  refine S_list (T_val (v := (Value.int .i64 2)) (x_bin rfl rfl (by rfl)) ?_)
  refine S_list (T_val (v := (Value.int .i64 2)) (x_assign rfl) ?_)
  refine wpList_nil ?_
  refine (X_then ?_)
  refine hK10_ _ _ ?_
  clear hK10_
  refine C_rounds (fun K18_ hK18_ => ?_)
  refine C_seq (fun K19_ hK19_ => ?_)
  refine C_seq (fun K20_ hK20_ => ?_)
  refine C_reg ?_
  refine S_list (T_val (v := (Value.int .i64 2)) (x_move rfl) ?_)
  refine S_list (T_val (v := (Value.bool true)) (x_bin rfl rfl rfl) ?_)
  refine wpList_nil ?_
  refine (X_then (hK20_ _ _ ?_))
  clear hK20_
  refine C_condT rfl ?_
  refine C_skip (X_then (hK19_ _ _ ?_))
  clear hK19_
  refine C_seq (fun K21_ hK21_ => ?_)
  refine C_block ?_
  refine C_reg ?_
  refine S_list (T_val (v := (Value.slice (some ⟨b, 0, none⟩) 17 18)) (x_move rfl) ?_)
  refine S_list (T_val (v := (Value.int .i64 2)) (x_move rfl) ?_)
  refine S_list (T_val (v := (Value.int .u64 x)) (x_move rfl) ?_)
  refine S_list (T_val (v := (Value.int .i64 2)) (x_move rfl) ?_)
  refine S_list (T_val (v := (Value.int .i64 5)) (x_bin rfl rfl (by rfl)) ?_)
  refine S_list (T_val (v := (Value.int .u64 5)) (x_convI rfl Try.underlying3 Try.underlying170 (by decide)) ?_)
  refine S_list (T_val (v := (Value.int .u64 40)) (x_bin rfl rfl (by rfl)) ?_)
  refine S_list (T_val (v := (Value.int .u64 (x / 1099511627776))) (x_shr rfl rfl (by omega) (shrN (by decide) (by decide))) ?_)
  refine S_list (T_val (v := (Value.int .u8 (IntKind.u8.wrap (x / 1099511627776)))) (x_convI rfl Try.underlying171 Try.underlying5 rfl) ?_)
  refine S_list (T_val (v := (Value.pointer (some ⟨b, 2, none⟩))) (x_indexAddr rfl rfl Try.underlying43 z5 (by omega) (by omega) (by omega : _ = 2) (by first | rfl | simp | (congr 1; omega))) ?_)
  refine S_list0 (T_store1 (v := (Value.int .u8 (IntKind.u8.wrap (x / 1099511627776)))) rfl rfl z5 rfl H15_ 1 rfl (Nat.le_of_ble_eq_true (by rfl)) ?_)
  intro w22_ S24_ H23_
  replace H23_ : Holds w22_ (ro R :: cl b 5 [(Value.int .u8 (IntKind.u8.wrap (x / 72057594037927936))), (Value.int .u8 (IntKind.u8.wrap (x / 281474976710656))), (Value.int .u8 (IntKind.u8.wrap (x / 1099511627776))), c3, c4, c5, c6, c7, c8, c9, c10, c11, c12, c13, c14, c15, c16, c17] :: F) := H23_
  have S25_ := Same.trans S17_ S24_
  refine wpList_nil ?_
  refine (X_blkN (X_then (hK21_ _ _ ?_)))
  clear hK21_
  refine C_reg ?_
  refine S_list (T_val (v := (Value.int .i64 2)) (x_move rfl) ?_)
  refine S_list (T_val (v := (Value.int .i64 3)) (x_bin rfl rfl (by rfl)) ?_)
  refine S_list (T_val (v := (Value.int .i64 3)) (x_assign rfl) ?_)
  refine wpList_nil ?_
  refine (X_then ?_)
  refine hK18_ _ _ ?_
  clear hK18_
  refine C_rounds (fun K26_ hK26_ => ?_)
  refine C_seq (fun K27_ hK27_ => ?_)
  refine C_seq (fun K28_ hK28_ => ?_)
  refine C_reg ?_
  refine S_list (T_val (v := (Value.int .i64 3)) (x_move rfl) ?_)
  refine S_list (T_val (v := (Value.bool true)) (x_bin rfl rfl rfl) ?_)
  refine wpList_nil ?_
  refine (X_then (hK28_ _ _ ?_))
  clear hK28_
  refine C_condT rfl ?_
  refine C_skip (X_then (hK27_ _ _ ?_))
  clear hK27_
  refine C_seq (fun K29_ hK29_ => ?_)
  refine C_block ?_
  refine C_reg ?_
  refine S_list (T_val (v := (Value.slice (some ⟨b, 0, none⟩) 17 18)) (x_move rfl) ?_)
  refine S_list (T_val (v := (Value.int .i64 3)) (x_move rfl) ?_)
  refine S_list (T_val (v := (Value.int .u64 x)) (x_move rfl) ?_)
  refine S_list (T_val (v := (Value.int .i64 3)) (x_move rfl) ?_)
  refine S_list (T_val (v := (Value.int .i64 4)) (x_bin rfl rfl (by rfl)) ?_)
  refine S_list (T_val (v := (Value.int .u64 4)) (x_convI rfl Try.underlying3 Try.underlying170 (by decide)) ?_)
  refine S_list (T_val (v := (Value.int .u64 32)) (x_bin rfl rfl (by rfl)) ?_)
  refine S_list (T_val (v := (Value.int .u64 (x / 4294967296))) (x_shr rfl rfl (by omega) (shrN (by decide) (by decide))) ?_)
  refine S_list (T_val (v := (Value.int .u8 (IntKind.u8.wrap (x / 4294967296)))) (x_convI rfl Try.underlying171 Try.underlying5 rfl) ?_)
  refine S_list (T_val (v := (Value.pointer (some ⟨b, 3, none⟩))) (x_indexAddr rfl rfl Try.underlying43 z5 (by omega) (by omega) (by omega : _ = 3) (by first | rfl | simp | (congr 1; omega))) ?_)
  refine S_list0 (T_store1 (v := (Value.int .u8 (IntKind.u8.wrap (x / 4294967296)))) rfl rfl z5 rfl H23_ 1 rfl (Nat.le_of_ble_eq_true (by rfl)) ?_)
  intro w30_ S32_ H31_
  replace H31_ : Holds w30_ (ro R :: cl b 5 [(Value.int .u8 (IntKind.u8.wrap (x / 72057594037927936))), (Value.int .u8 (IntKind.u8.wrap (x / 281474976710656))), (Value.int .u8 (IntKind.u8.wrap (x / 1099511627776))), (Value.int .u8 (IntKind.u8.wrap (x / 4294967296))), c4, c5, c6, c7, c8, c9, c10, c11, c12, c13, c14, c15, c16, c17] :: F) := H31_
  have S33_ := Same.trans S25_ S32_
  refine wpList_nil ?_
  refine (X_blkN (X_then (hK29_ _ _ ?_)))
  clear hK29_
  refine C_reg ?_
  refine S_list (T_val (v := (Value.int .i64 3)) (x_move rfl) ?_)
  refine S_list (T_val (v := (Value.int .i64 4)) (x_bin rfl rfl (by rfl)) ?_)
  refine S_list (T_val (v := (Value.int .i64 4)) (x_assign rfl) ?_)
  refine wpList_nil ?_
  refine (X_then ?_)
  refine hK26_ _ _ ?_
  clear hK26_
  refine C_rounds (fun K34_ hK34_ => ?_)
  refine C_seq (fun K35_ hK35_ => ?_)
  refine C_seq (fun K36_ hK36_ => ?_)
  refine C_reg ?_
  refine S_list (T_val (v := (Value.int .i64 4)) (x_move rfl) ?_)
  refine S_list (T_val (v := (Value.bool true)) (x_bin rfl rfl rfl) ?_)
  refine wpList_nil ?_
  refine (X_then (hK36_ _ _ ?_))
  clear hK36_
  refine C_condT rfl ?_
  refine C_skip (X_then (hK35_ _ _ ?_))
  clear hK35_
  refine C_seq (fun K37_ hK37_ => ?_)
  refine C_block ?_
  refine C_reg ?_
  refine S_list (T_val (v := (Value.slice (some ⟨b, 0, none⟩) 17 18)) (x_move rfl) ?_)
  refine S_list (T_val (v := (Value.int .i64 4)) (x_move rfl) ?_)
  refine S_list (T_val (v := (Value.int .u64 x)) (x_move rfl) ?_)
  refine S_list (T_val (v := (Value.int .i64 4)) (x_move rfl) ?_)
  refine S_list (T_val (v := (Value.int .i64 3)) (x_bin rfl rfl (by rfl)) ?_)
  refine S_list (T_val (v := (Value.int .u64 3)) (x_convI rfl Try.underlying3 Try.underlying170 (by decide)) ?_)
  refine S_list (T_val (v := (Value.int .u64 24)) (x_bin rfl rfl (by rfl)) ?_)
  refine S_list (T_val (v := (Value.int .u64 (x / 16777216))) (x_shr rfl rfl (by omega) (shrN (by decide) (by decide))) ?_)
  refine S_list (T_val (v := (Value.int .u8 (IntKind.u8.wrap (x / 16777216)))) (x_convI rfl Try.underlying171 Try.underlying5 rfl) ?_)
  refine S_list (T_val (v := (Value.pointer (some ⟨b, 4, none⟩))) (x_indexAddr rfl rfl Try.underlying43 z5 (by omega) (by omega) (by omega : _ = 4) (by first | rfl | simp | (congr 1; omega))) ?_)
  refine S_list0 (T_store1 (v := (Value.int .u8 (IntKind.u8.wrap (x / 16777216)))) rfl rfl z5 rfl H31_ 1 rfl (Nat.le_of_ble_eq_true (by rfl)) ?_)
  intro w38_ S40_ H39_
  replace H39_ : Holds w38_ (ro R :: cl b 5 [(Value.int .u8 (IntKind.u8.wrap (x / 72057594037927936))), (Value.int .u8 (IntKind.u8.wrap (x / 281474976710656))), (Value.int .u8 (IntKind.u8.wrap (x / 1099511627776))), (Value.int .u8 (IntKind.u8.wrap (x / 4294967296))), (Value.int .u8 (IntKind.u8.wrap (x / 16777216))), c5, c6, c7, c8, c9, c10, c11, c12, c13, c14, c15, c16, c17] :: F) := H39_
  have S41_ := Same.trans S33_ S40_
  refine wpList_nil ?_
  refine (X_blkN (X_then (hK37_ _ _ ?_)))
  clear hK37_
  refine C_reg ?_
  refine S_list (T_val (v := (Value.int .i64 4)) (x_move rfl) ?_)
  refine S_list (T_val (v := (Value.int .i64 5)) (x_bin rfl rfl (by rfl)) ?_)
  refine S_list (T_val (v := (Value.int .i64 5)) (x_assign rfl) ?_)
  refine wpList_nil ?_
  refine (X_then ?_)
  refine hK34_ _ _ ?_
  clear hK34_
  refine C_rounds (fun K42_ hK42_ => ?_)
  refine C_seq (fun K43_ hK43_ => ?_)
  refine C_seq (fun K44_ hK44_ => ?_)
  refine C_reg ?_
  refine S_list (T_val (v := (Value.int .i64 5)) (x_move rfl) ?_)
  refine S_list (T_val (v := (Value.bool true)) (x_bin rfl rfl rfl) ?_)
  refine wpList_nil ?_
  refine (X_then (hK44_ _ _ ?_))
  clear hK44_
  refine C_condT rfl ?_
  refine C_skip (X_then (hK43_ _ _ ?_))
  clear hK43_
  refine C_seq (fun K45_ hK45_ => ?_)
  refine C_block ?_
  refine C_reg ?_
  refine S_list (T_val (v := (Value.slice (some ⟨b, 0, none⟩) 17 18)) (x_move rfl) ?_)
  refine S_list (T_val (v := (Value.int .i64 5)) (x_move rfl) ?_)
  refine S_list (T_val (v := (Value.int .u64 x)) (x_move rfl) ?_)
  refine S_list (T_val (v := (Value.int .i64 5)) (x_move rfl) ?_)
  refine S_list (T_val (v := (Value.int .i64 2)) (x_bin rfl rfl (by rfl)) ?_)
  refine S_list (T_val (v := (Value.int .u64 2)) (x_convI rfl Try.underlying3 Try.underlying170 (by decide)) ?_)
  refine S_list (T_val (v := (Value.int .u64 16)) (x_bin rfl rfl (by rfl)) ?_)
  refine S_list (T_val (v := (Value.int .u64 (x / 65536))) (x_shr rfl rfl (by omega) (shrN (by decide) (by decide))) ?_)
  refine S_list (T_val (v := (Value.int .u8 (IntKind.u8.wrap (x / 65536)))) (x_convI rfl Try.underlying171 Try.underlying5 rfl) ?_)
  refine S_list (T_val (v := (Value.pointer (some ⟨b, 5, none⟩))) (x_indexAddr rfl rfl Try.underlying43 z5 (by omega) (by omega) (by omega : _ = 5) (by first | rfl | simp | (congr 1; omega))) ?_)
  refine S_list0 (T_store1 (v := (Value.int .u8 (IntKind.u8.wrap (x / 65536)))) rfl rfl z5 rfl H39_ 1 rfl (Nat.le_of_ble_eq_true (by rfl)) ?_)
  intro w46_ S48_ H47_
  replace H47_ : Holds w46_ (ro R :: cl b 5 [(Value.int .u8 (IntKind.u8.wrap (x / 72057594037927936))), (Value.int .u8 (IntKind.u8.wrap (x / 281474976710656))), (Value.int .u8 (IntKind.u8.wrap (x / 1099511627776))), (Value.int .u8 (IntKind.u8.wrap (x / 4294967296))), (Value.int .u8 (IntKind.u8.wrap (x / 16777216))), (Value.int .u8 (IntKind.u8.wrap (x / 65536))), c6, c7, c8, c9, c10, c11, c12, c13, c14, c15, c16, c17] :: F) := H47_
  have S49_ := Same.trans S41_ S48_
  refine wpList_nil ?_
  refine (X_blkN (X_then (hK45_ _ _ ?_)))
  clear hK45_
  refine C_reg ?_
  refine S_list (T_val (v := (Value.int .i64 5)) (x_move rfl) ?_)
  refine S_list (T_val (v := (Value.int .i64 6)) (x_bin rfl rfl (by rfl)) ?_)
  refine S_list (T_val (v := (Value.int .i64 6)) (x_assign rfl) ?_)
  refine wpList_nil ?_
  refine (X_then ?_)
  refine hK42_ _ _ ?_
  clear hK42_
  refine C_rounds (fun K50_ hK50_ => ?_)
  refine C_seq (fun K51_ hK51_ => ?_)
  refine C_seq (fun K52_ hK52_ => ?_)
  refine C_reg ?_
  refine S_list (T_val (v := (Value.int .i64 6)) (x_move rfl) ?_)
  refine S_list (T_val (v := (Value.bool true)) (x_bin rfl rfl rfl) ?_)
  refine wpList_nil ?_
  refine (X_then (hK52_ _ _ ?_))
  clear hK52_
  refine C_condT rfl ?_
  refine C_skip (X_then (hK51_ _ _ ?_))
  clear hK51_
  refine C_seq (fun K53_ hK53_ => ?_)
  refine C_block ?_
  refine C_reg ?_
  refine S_list (T_val (v := (Value.slice (some ⟨b, 0, none⟩) 17 18)) (x_move rfl) ?_)
  refine S_list (T_val (v := (Value.int .i64 6)) (x_move rfl) ?_)
  refine S_list (T_val (v := (Value.int .u64 x)) (x_move rfl) ?_)
  refine S_list (T_val (v := (Value.int .i64 6)) (x_move rfl) ?_)
  refine S_list (T_val (v := (Value.int .i64 1)) (x_bin rfl rfl (by rfl)) ?_)
  refine S_list (T_val (v := (Value.int .u64 1)) (x_convI rfl Try.underlying3 Try.underlying170 (by decide)) ?_)
  refine S_list (T_val (v := (Value.int .u64 8)) (x_bin rfl rfl (by rfl)) ?_)
  refine S_list (T_val (v := (Value.int .u64 (x / 256))) (x_shr rfl rfl (by omega) (shrN (by decide) (by decide))) ?_)
  refine S_list (T_val (v := (Value.int .u8 (IntKind.u8.wrap (x / 256)))) (x_convI rfl Try.underlying171 Try.underlying5 rfl) ?_)
  refine S_list (T_val (v := (Value.pointer (some ⟨b, 6, none⟩))) (x_indexAddr rfl rfl Try.underlying43 z5 (by omega) (by omega) (by omega : _ = 6) (by first | rfl | simp | (congr 1; omega))) ?_)
  refine S_list0 (T_store1 (v := (Value.int .u8 (IntKind.u8.wrap (x / 256)))) rfl rfl z5 rfl H47_ 1 rfl (Nat.le_of_ble_eq_true (by rfl)) ?_)
  intro w54_ S56_ H55_
  replace H55_ : Holds w54_ (ro R :: cl b 5 [(Value.int .u8 (IntKind.u8.wrap (x / 72057594037927936))), (Value.int .u8 (IntKind.u8.wrap (x / 281474976710656))), (Value.int .u8 (IntKind.u8.wrap (x / 1099511627776))), (Value.int .u8 (IntKind.u8.wrap (x / 4294967296))), (Value.int .u8 (IntKind.u8.wrap (x / 16777216))), (Value.int .u8 (IntKind.u8.wrap (x / 65536))), (Value.int .u8 (IntKind.u8.wrap (x / 256))), c7, c8, c9, c10, c11, c12, c13, c14, c15, c16, c17] :: F) := H55_
  have S57_ := Same.trans S49_ S56_
  refine wpList_nil ?_
  refine (X_blkN (X_then (hK53_ _ _ ?_)))
  clear hK53_
  refine C_reg ?_
  refine S_list (T_val (v := (Value.int .i64 6)) (x_move rfl) ?_)
  refine S_list (T_val (v := (Value.int .i64 7)) (x_bin rfl rfl (by rfl)) ?_)
  refine S_list (T_val (v := (Value.int .i64 7)) (x_assign rfl) ?_)
  refine wpList_nil ?_
  refine (X_then ?_)
  refine hK50_ _ _ ?_
  clear hK50_
  refine C_rounds (fun K58_ hK58_ => ?_)
  refine C_seq (fun K59_ hK59_ => ?_)
  refine C_seq (fun K60_ hK60_ => ?_)
  refine C_reg ?_
  refine S_list (T_val (v := (Value.int .i64 7)) (x_move rfl) ?_)
  refine S_list (T_val (v := (Value.bool true)) (x_bin rfl rfl rfl) ?_)
  refine wpList_nil ?_
  refine (X_then (hK60_ _ _ ?_))
  clear hK60_
  refine C_condT rfl ?_
  refine C_skip (X_then (hK59_ _ _ ?_))
  clear hK59_
  refine C_seq (fun K61_ hK61_ => ?_)
  refine C_block ?_
  refine C_reg ?_
  refine S_list (T_val (v := (Value.slice (some ⟨b, 0, none⟩) 17 18)) (x_move rfl) ?_)
  refine S_list (T_val (v := (Value.int .i64 7)) (x_move rfl) ?_)
  refine S_list (T_val (v := (Value.int .u64 x)) (x_move rfl) ?_)
  refine S_list (T_val (v := (Value.int .i64 7)) (x_move rfl) ?_)
  refine S_list (T_val (v := (Value.int .i64 0)) (x_bin rfl rfl (by rfl)) ?_)
  refine S_list (T_val (v := (Value.int .u64 0)) (x_convI rfl Try.underlying3 Try.underlying170 (by decide)) ?_)
  refine S_list (T_val (v := (Value.int .u64 0)) (x_bin rfl rfl (by rfl)) ?_)
  refine S_list (T_val (v := (Value.int .u64 x)) (x_shr rfl rfl (by omega) (by simp [Int.fdiv_one])) ?_)
  refine S_list (T_val (v := (Value.int .u8 (IntKind.u8.wrap x))) (x_convI rfl Try.underlying171 Try.underlying5 rfl) ?_)
  refine S_list (T_val (v := (Value.pointer (some ⟨b, 7, none⟩))) (x_indexAddr rfl rfl Try.underlying43 z5 (by omega) (by omega) (by omega : _ = 7) (by first | rfl | simp | (congr 1; omega))) ?_)
  refine S_list0 (T_store1 (v := (Value.int .u8 (IntKind.u8.wrap x))) rfl rfl z5 rfl H55_ 1 rfl (Nat.le_of_ble_eq_true (by rfl)) ?_)
  intro w62_ S64_ H63_
  replace H63_ : Holds w62_ (ro R :: cl b 5 [(Value.int .u8 (IntKind.u8.wrap (x / 72057594037927936))), (Value.int .u8 (IntKind.u8.wrap (x / 281474976710656))), (Value.int .u8 (IntKind.u8.wrap (x / 1099511627776))), (Value.int .u8 (IntKind.u8.wrap (x / 4294967296))), (Value.int .u8 (IntKind.u8.wrap (x / 16777216))), (Value.int .u8 (IntKind.u8.wrap (x / 65536))), (Value.int .u8 (IntKind.u8.wrap (x / 256))), (Value.int .u8 (IntKind.u8.wrap x)), c8, c9, c10, c11, c12, c13, c14, c15, c16, c17] :: F) := H63_
  have S65_ := Same.trans S57_ S64_
  refine wpList_nil ?_
  refine (X_blkN (X_then (hK61_ _ _ ?_)))
  clear hK61_
  refine C_reg ?_
  refine S_list (T_val (v := (Value.int .i64 7)) (x_move rfl) ?_)
  refine S_list (T_val (v := (Value.int .i64 8)) (x_bin rfl rfl (by rfl)) ?_)
  refine S_list (T_val (v := (Value.int .i64 8)) (x_assign rfl) ?_)
  refine wpList_nil ?_
  refine (X_then ?_)
  refine hK58_ _ _ ?_
  clear hK58_
  refine C_rounds (fun K66_ hK66_ => ?_)
  refine C_seq (fun K67_ hK67_ => ?_)
  refine C_seq (fun K68_ hK68_ => ?_)
  refine C_reg ?_
  refine S_list (T_val (v := (Value.int .i64 8)) (x_move rfl) ?_)
  refine S_list (T_val (v := (Value.bool false)) (x_bin rfl rfl rfl) ?_)
  refine wpList_nil ?_
  refine (X_then (hK68_ _ _ ?_))
  clear hK68_
  refine C_condF rfl ?_
  refine C_exit (X_thenX (X_thenX (X_blkHit ?_)))
  refine R_0 rfl ?_
  exact ⟨_, [cl b 5 [(Value.int .u8 (IntKind.u8.wrap (x / 72057594037927936))), (Value.int .u8 (IntKind.u8.wrap (x / 281474976710656))), (Value.int .u8 (IntKind.u8.wrap (x / 1099511627776))), (Value.int .u8 (IntKind.u8.wrap (x / 4294967296))), (Value.int .u8 (IntKind.u8.wrap (x / 16777216))), (Value.int .u8 (IntKind.u8.wrap (x / 65536))), (Value.int .u8 (IntKind.u8.wrap (x / 256))), (Value.int .u8 (IntKind.u8.wrap x)), c8, c9, c10, c11, c12, c13, c14, c15, c16, c17]], rfl, ⟨rfl, rfl⟩, S65_, H63_⟩

set_option maxHeartbeats 400000 in
theorem hPutB (R : HP) (b : Nat) (x : Int) (c0 c1 c2 c3 c4 c5 c6 c7 c8 c9 c10 c11 c12 c13 c14 c15 c16 c17 : Value) :
    Tri Try.prog 109 #[(Value.slice (some ⟨b, 9, none⟩) 8 9), (Value.int .u64 x)] R [cl b 5 [c0, c1, c2, c3, c4, c5, c6, c7, c8, c9, c10, c11, c12, c13, c14, c15, c16, c17]] (fun v__ post__ => v__ = (Value.tuple #[]) ∧ post__ = [cl b 5 [c0, c1, c2, c3, c4, c5, c6, c7, c8, (Value.int .u8 (IntKind.u8.wrap (x / 72057594037927936))), (Value.int .u8 (IntKind.u8.wrap (x / 281474976710656))), (Value.int .u8 (IntKind.u8.wrap (x / 1099511627776))), (Value.int .u8 (IntKind.u8.wrap (x / 4294967296))), (Value.int .u8 (IntKind.u8.wrap (x / 16777216))), (Value.int .u8 (IntKind.u8.wrap (x / 65536))), (Value.int .u8 (IntKind.u8.wrap (x / 256))), (Value.int .u8 (IntKind.u8.wrap x)), c17]]) := by
  refine Tri.into (n := 19) (al := [(Value.slice (some ⟨b, 9, none⟩) 8 9), (Value.int .u64 x)]) Try.func109 rfl Try.ntmps109 rfl rfl fun w F H => ?_
  replace H : Holds w (ro R :: cl b 5 [c0, c1, c2, c3, c4, c5, c6, c7, c8, c9, c10, c11, c12, c13, c14, c15, c16, c17] :: F) := H
  refine C_seq (fun K1_ hK1_ => ?_)
  refine C_reg ?_
  refine S_list (T_val (v := (Value.int .i64 0)) (x_assign rfl) ?_)
  refine wpList_nil ?_
  refine (X_then (hK1_ _ _ ?_))
  clear hK1_
  refine C_block ?_
  refine C_loopN 9 ?_
  refine C_rounds (fun K2_ hK2_ => ?_)
  refine C_seq (fun K3_ hK3_ => ?_)
  refine C_seq (fun K4_ hK4_ => ?_)
  refine C_reg ?_
  refine S_list (T_val (v := (Value.int .i64 0)) (x_move rfl) ?_)
  refine S_list (T_val (v := (Value.bool true)) (x_bin rfl rfl rfl) ?_)
  refine wpList_nil ?_
  refine (X_then (hK4_ _ _ ?_))
  clear hK4_
  refine C_condT rfl ?_
  refine C_skip (X_then (hK3_ _ _ ?_))
  clear hK3_
  refine C_seq (fun K5_ hK5_ => ?_)
  refine C_block ?_
  refine C_reg ?_
  refine S_list (T_val (v := (Value.slice (some ⟨b, 9, none⟩) 8 9)) (x_move rfl) ?_)
  refine S_list (T_val (v := (Value.int .i64 0)) (x_move rfl) ?_)
  refine S_list (T_val (v := (Value.int .u64 x)) (x_move rfl) ?_)
  refine S_list (T_val (v := (Value.int .i64 0)) (x_move rfl) ?_)
  refine S_list (T_val (v := (Value.int .i64 7)) (x_bin rfl rfl (by rfl)) ?_)
  refine S_list (T_val (v := (Value.int .u64 7)) (x_convI rfl Try.underlying3 Try.underlying170 (by decide)) ?_)
  refine S_list (T_val (v := (Value.int .u64 56)) (x_bin rfl rfl (by rfl)) ?_)
  refine S_list (T_val (v := (Value.int .u64 (x / 72057594037927936))) (x_shr rfl rfl (by omega) (shrN (by decide) (by decide))) ?_)
  refine S_list (T_val (v := (Value.int .u8 (IntKind.u8.wrap (x / 72057594037927936)))) (x_convI rfl Try.underlying171 Try.underlying5 rfl) ?_)
  refine S_list (T_val (v := (Value.pointer (some ⟨b, 9, none⟩))) (x_indexAddr rfl rfl Try.underlying43 z5 (by omega) (by omega) (by omega : _ = 0) (by first | rfl | simp | (congr 1; omega))) ?_)
  refine S_list0 (T_store1 (v := (Value.int .u8 (IntKind.u8.wrap (x / 72057594037927936)))) rfl rfl z5 rfl H 1 rfl (Nat.le_of_ble_eq_true (by rfl)) ?_)
  intro w6_ S8_ H7_
  replace H7_ : Holds w6_ (ro R :: cl b 5 [c0, c1, c2, c3, c4, c5, c6, c7, c8, (Value.int .u8 (IntKind.u8.wrap (x / 72057594037927936))), c10, c11, c12, c13, c14, c15, c16, c17] :: F) := H7_
  have S9_ := Same.trans (Same.refl w) S8_
  refine wpList_nil ?_
  refine (X_blkN (X_then (hK5_ _ _ ?_)))
  clear hK5_
  refine C_reg ?_
  refine S_list (T_val (v := (Value.int .i64 0)) (x_move rfl) ?_)
  refine S_list (T_val (v := (Value.int .i64 1)) (x_bin rfl rfl (by rfl)) ?_)
  refine S_list (T_val (v := (Value.int .i64 1)) (x_assign rfl) ?_)
  refine wpList_nil ?_
  refine (X_then ?_)
  refine hK2_ _ _ ?_
  clear hK2_
  refine C_rounds (fun K10_ hK10_ => ?_)
  refine C_seq (fun K11_ hK11_ => ?_)
  refine C_seq (fun K12_ hK12_ => ?_)
  refine C_reg ?_
  refine S_list (T_val (v := (Value.int .i64 1)) (x_move rfl) ?_)
  refine S_list (T_val (v := (Value.bool true)) (x_bin rfl rfl rfl) ?_)
  refine wpList_nil ?_
  refine (X_then (hK12_ _ _ ?_))
  clear hK12_
  refine C_condT rfl ?_
  refine C_skip (X_then (hK11_ _ _ ?_))
  clear hK11_
  refine C_seq (fun K13_ hK13_ => ?_)
  refine C_block ?_
  refine C_reg ?_
  refine S_list (T_val (v := (Value.slice (some ⟨b, 9, none⟩) 8 9)) (x_move rfl) ?_)
  refine S_list (T_val (v := (Value.int .i64 1)) (x_move rfl) ?_)
  refine S_list (T_val (v := (Value.int .u64 x)) (x_move rfl) ?_)
  refine S_list (T_val (v := (Value.int .i64 1)) (x_move rfl) ?_)
  refine S_list (T_val (v := (Value.int .i64 6)) (x_bin rfl rfl (by rfl)) ?_)
  refine S_list (T_val (v := (Value.int .u64 6)) (x_convI rfl Try.underlying3 Try.underlying170 (by decide)) ?_)
  refine S_list (T_val (v := (Value.int .u64 48)) (x_bin rfl rfl (by rfl)) ?_)
  refine S_list (T_val (v := (Value.int .u64 (x / 281474976710656))) (x_shr rfl rfl (by omega) (shrN (by decide) (by decide))) ?_)
  refine S_list (T_val (v := (Value.int .u8 (IntKind.u8.wrap (x / 281474976710656)))) (x_convI rfl Try.underlying171 Try.underlying5 rfl) ?_)
  refine S_list (T_val (v := (Value.pointer (some ⟨b, 10, none⟩))) (x_indexAddr rfl rfl Try.underlying43 z5 (by omega) (by omega) (by omega : _ = 1) (by first | rfl | simp | (congr 1; omega))) ?_)
  refine S_list0 (T_store1 (v := (Value.int .u8 (IntKind.u8.wrap (x / 281474976710656)))) rfl rfl z5 rfl H7_ 1 rfl (Nat.le_of_ble_eq_true (by rfl)) ?_)
  intro w14_ S16_ H15_
  replace H15_ : Holds w14_ (ro R :: cl b 5 [c0, c1, c2, c3, c4, c5, c6, c7, c8, (Value.int .u8 (IntKind.u8.wrap (x / 72057594037927936))), (Value.int .u8 (IntKind.u8.wrap (x / 281474976710656))), c11, c12, c13, c14, c15, c16, c17] :: F) := H15_
  have S17_ := Same.trans S9_ S16_
  refine wpList_nil ?_
  refine (X_blkN (X_then (hK13_ _ _ ?_)))
  clear hK13_
  refine C_reg ?_
  refine S_list (T_val (v := (Value.int .i64 1)) (x_move rfl) ?_)
  refine S_list (T_val (v := (Value.int .i64 2)) (x_bin rfl rfl (by rfl)) ?_)
  refine S_list (T_val (v := (Value.int .i64 2)) (x_assign rfl) ?_)
  refine wpList_nil ?_
  refine (X_then ?_)
  refine hK10_ _ _ ?_
  clear hK10_
  refine C_rounds (fun K18_ hK18_ => ?_)
  refine C_seq (fun K19_ hK19_ => ?_)
  refine C_seq (fun K20_ hK20_ => ?_)
  refine C_reg ?_
  refine S_list (T_val (v := (Value.int .i64 2)) (x_move rfl) ?_)
  refine S_list (T_val (v := (Value.bool true)) (x_bin rfl rfl rfl) ?_)
  refine wpList_nil ?_
  refine (X_then (hK20_ _ _ ?_))
  clear hK20_
  refine C_condT rfl ?_
  refine C_skip (X_then (hK19_ _ _ ?_))
  clear hK19_
  refine C_seq (fun K21_ hK21_ => ?_)
  refine C_block ?_
  refine C_reg ?_
  refine S_list (T_val (v := (Value.slice (some ⟨b, 9, none⟩) 8 9)) (x_move rfl) ?_)
  refine S_list (T_val (v := (Value.int .i64 2)) (x_move rfl) ?_)
  refine S_list (T_val (v := (Value.int .u64 x)) (x_move rfl) ?_)
  refine S_list (T_val (v := (Value.int .i64 2)) (x_move rfl) ?_)
  refine S_list (T_val (v := (Value.int .i64 5)) (x_bin rfl rfl (by rfl)) ?_)
  refine S_list (T_val (v := (Value.int .u64 5)) (x_convI rfl Try.underlying3 Try.underlying170 (by decide)) ?_)
  refine S_list (T_val (v := (Value.int .u64 40)) (x_bin rfl rfl (by rfl)) ?_)
  refine S_list (T_val (v := (Value.int .u64 (x / 1099511627776))) (x_shr rfl rfl (by omega) (shrN (by decide) (by decide))) ?_)
  refine S_list (T_val (v := (Value.int .u8 (IntKind.u8.wrap (x / 1099511627776)))) (x_convI rfl Try.underlying171 Try.underlying5 rfl) ?_)
  refine S_list (T_val (v := (Value.pointer (some ⟨b, 11, none⟩))) (x_indexAddr rfl rfl Try.underlying43 z5 (by omega) (by omega) (by omega : _ = 2) (by first | rfl | simp | (congr 1; omega))) ?_)
  refine S_list0 (T_store1 (v := (Value.int .u8 (IntKind.u8.wrap (x / 1099511627776)))) rfl rfl z5 rfl H15_ 1 rfl (Nat.le_of_ble_eq_true (by rfl)) ?_)
  intro w22_ S24_ H23_
  replace H23_ : Holds w22_ (ro R :: cl b 5 [c0, c1, c2, c3, c4, c5, c6, c7, c8, (Value.int .u8 (IntKind.u8.wrap (x / 72057594037927936))), (Value.int .u8 (IntKind.u8.wrap (x / 281474976710656))), (Value.int .u8 (IntKind.u8.wrap (x / 1099511627776))), c12, c13, c14, c15, c16, c17] :: F) := H23_
  have S25_ := Same.trans S17_ S24_
  refine wpList_nil ?_
  refine (X_blkN (X_then (hK21_ _ _ ?_)))
  clear hK21_
  refine C_reg ?_
  refine S_list (T_val (v := (Value.int .i64 2)) (x_move rfl) ?_)
  refine S_list (T_val (v := (Value.int .i64 3)) (x_bin rfl rfl (by rfl)) ?_)
  refine S_list (T_val (v := (Value.int .i64 3)) (x_assign rfl) ?_)
  refine wpList_nil ?_
  refine (X_then ?_)
  refine hK18_ _ _ ?_
  clear hK18_
  refine C_rounds (fun K26_ hK26_ => ?_)
  refine C_seq (fun K27_ hK27_ => ?_)
  refine C_seq (fun K28_ hK28_ => ?_)
  refine C_reg ?_
  refine S_list (T_val (v := (Value.int .i64 3)) (x_move rfl) ?_)
  refine S_list (T_val (v := (Value.bool true)) (x_bin rfl rfl rfl) ?_)
  refine wpList_nil ?_
  refine (X_then (hK28_ _ _ ?_))
  clear hK28_
  refine C_condT rfl ?_
  refine C_skip (X_then (hK27_ _ _ ?_))
  clear hK27_
  refine C_seq (fun K29_ hK29_ => ?_)
  refine C_block ?_
  refine C_reg ?_
  refine S_list (T_val (v := (Value.slice (some ⟨b, 9, none⟩) 8 9)) (x_move rfl) ?_)
  refine S_list (T_val (v := (Value.int .i64 3)) (x_move rfl) ?_)
  refine S_list (T_val (v := (Value.int .u64 x)) (x_move rfl) ?_)
  refine S_list (T_val (v := (Value.int .i64 3)) (x_move rfl) ?_)
  refine S_list (T_val (v := (Value.int .i64 4)) (x_bin rfl rfl (by rfl)) ?_)
  refine S_list (T_val (v := (Value.int .u64 4)) (x_convI rfl Try.underlying3 Try.underlying170 (by decide)) ?_)
  refine S_list (T_val (v := (Value.int .u64 32)) (x_bin rfl rfl (by rfl)) ?_)
  refine S_list (T_val (v := (Value.int .u64 (x / 4294967296))) (x_shr rfl rfl (by omega) (shrN (by decide) (by decide))) ?_)
  refine S_list (T_val (v := (Value.int .u8 (IntKind.u8.wrap (x / 4294967296)))) (x_convI rfl Try.underlying171 Try.underlying5 rfl) ?_)
  refine S_list (T_val (v := (Value.pointer (some ⟨b, 12, none⟩))) (x_indexAddr rfl rfl Try.underlying43 z5 (by omega) (by omega) (by omega : _ = 3) (by first | rfl | simp | (congr 1; omega))) ?_)
  refine S_list0 (T_store1 (v := (Value.int .u8 (IntKind.u8.wrap (x / 4294967296)))) rfl rfl z5 rfl H23_ 1 rfl (Nat.le_of_ble_eq_true (by rfl)) ?_)
  intro w30_ S32_ H31_
  replace H31_ : Holds w30_ (ro R :: cl b 5 [c0, c1, c2, c3, c4, c5, c6, c7, c8, (Value.int .u8 (IntKind.u8.wrap (x / 72057594037927936))), (Value.int .u8 (IntKind.u8.wrap (x / 281474976710656))), (Value.int .u8 (IntKind.u8.wrap (x / 1099511627776))), (Value.int .u8 (IntKind.u8.wrap (x / 4294967296))), c13, c14, c15, c16, c17] :: F) := H31_
  have S33_ := Same.trans S25_ S32_
  refine wpList_nil ?_
  refine (X_blkN (X_then (hK29_ _ _ ?_)))
  clear hK29_
  refine C_reg ?_
  refine S_list (T_val (v := (Value.int .i64 3)) (x_move rfl) ?_)
  refine S_list (T_val (v := (Value.int .i64 4)) (x_bin rfl rfl (by rfl)) ?_)
  refine S_list (T_val (v := (Value.int .i64 4)) (x_assign rfl) ?_)
  refine wpList_nil ?_
  refine (X_then ?_)
  refine hK26_ _ _ ?_
  clear hK26_
  refine C_rounds (fun K34_ hK34_ => ?_)
  refine C_seq (fun K35_ hK35_ => ?_)
  refine C_seq (fun K36_ hK36_ => ?_)
  refine C_reg ?_
  refine S_list (T_val (v := (Value.int .i64 4)) (x_move rfl) ?_)
  refine S_list (T_val (v := (Value.bool true)) (x_bin rfl rfl rfl) ?_)
  refine wpList_nil ?_
  refine (X_then (hK36_ _ _ ?_))
  clear hK36_
  refine C_condT rfl ?_
  refine C_skip (X_then (hK35_ _ _ ?_))
  clear hK35_
  refine C_seq (fun K37_ hK37_ => ?_)
  refine C_block ?_
  refine C_reg ?_
  refine S_list (T_val (v := (Value.slice (some ⟨b, 9, none⟩) 8 9)) (x_move rfl) ?_)
  refine S_list (T_val (v := (Value.int .i64 4)) (x_move rfl) ?_)
  refine S_list (T_val (v := (Value.int .u64 x)) (x_move rfl) ?_)
  refine S_list (T_val (v := (Value.int .i64 4)) (x_move rfl) ?_)
  refine S_list (T_val (v := (Value.int .i64 3)) (x_bin rfl rfl (by rfl)) ?_)
  refine S_list (T_val (v := (Value.int .u64 3)) (x_convI rfl Try.underlying3 Try.underlying170 (by decide)) ?_)
  refine S_list (T_val (v := (Value.int .u64 24)) (x_bin rfl rfl (by rfl)) ?_)
  refine S_list (T_val (v := (Value.int .u64 (x / 16777216))) (x_shr rfl rfl (by omega) (shrN (by decide) (by decide))) ?_)
  refine S_list (T_val (v := (Value.int .u8 (IntKind.u8.wrap (x / 16777216)))) (x_convI rfl Try.underlying171 Try.underlying5 rfl) ?_)
  refine S_list (T_val (v := (Value.pointer (some ⟨b, 13, none⟩))) (x_indexAddr rfl rfl Try.underlying43 z5 (by omega) (by omega) (by omega : _ = 4) (by first | rfl | simp | (congr 1; omega))) ?_)
  refine S_list0 (T_store1 (v := (Value.int .u8 (IntKind.u8.wrap (x / 16777216)))) rfl rfl z5 rfl H31_ 1 rfl (Nat.le_of_ble_eq_true (by rfl)) ?_)
  intro w38_ S40_ H39_
  replace H39_ : Holds w38_ (ro R :: cl b 5 [c0, c1, c2, c3, c4, c5, c6, c7, c8, (Value.int .u8 (IntKind.u8.wrap (x / 72057594037927936))), (Value.int .u8 (IntKind.u8.wrap (x / 281474976710656))), (Value.int .u8 (IntKind.u8.wrap (x / 1099511627776))), (Value.int .u8 (IntKind.u8.wrap (x / 4294967296))), (Value.int .u8 (IntKind.u8.wrap (x / 16777216))), c14, c15, c16, c17] :: F) := H39_
  have S41_ := Same.trans S33_ S40_
  refine wpList_nil ?_
  refine (X_blkN (X_then (hK37_ _ _ ?_)))
  clear hK37_
  refine C_reg ?_
  refine S_list (T_val (v := (Value.int .i64 4)) (x_move rfl) ?_)
  refine S_list (T_val (v := (Value.int .i64 5)) (x_bin rfl rfl (by rfl)) ?_)
  refine S_list (T_val (v := (Value.int .i64 5)) (x_assign rfl) ?_)
  refine wpList_nil ?_
  refine (X_then ?_)
  refine hK34_ _ _ ?_
  clear hK34_
  refine C_rounds (fun K42_ hK42_ => ?_)
  refine C_seq (fun K43_ hK43_ => ?_)
  refine C_seq (fun K44_ hK44_ => ?_)
  refine C_reg ?_
  refine S_list (T_val (v := (Value.int .i64 5)) (x_move rfl) ?_)
  refine S_list (T_val (v := (Value.bool true)) (x_bin rfl rfl rfl) ?_)
  refine wpList_nil ?_
  refine (X_then (hK44_ _ _ ?_))
  clear hK44_
  refine C_condT rfl ?_
  refine C_skip (X_then (hK43_ _ _ ?_))
  clear hK43_
  refine C_seq (fun K45_ hK45_ => ?_)
  refine C_block ?_
  refine C_reg ?_
  refine S_list (T_val (v := (Value.slice (some ⟨b, 9, none⟩) 8 9)) (x_move rfl) ?_)
  refine S_list (T_val (v := (Value.int .i64 5)) (x_move rfl) ?_)
  refine S_list (T_val (v := (Value.int .u64 x)) (x_move rfl) ?_)
  refine S_list (T_val (v := (Value.int .i64 5)) (x_move rfl) ?_)
  refine S_list (T_val (v := (Value.int .i64 2)) (x_bin rfl rfl (by rfl)) ?_)
  refine S_list (T_val (v := (Value.int .u64 2)) (x_convI rfl Try.underlying3 Try.underlying170 (by decide)) ?_)
  refine S_list (T_val (v := (Value.int .u64 16)) (x_bin rfl rfl (by rfl)) ?_)
  refine S_list (T_val (v := (Value.int .u64 (x / 65536))) (x_shr rfl rfl (by omega) (shrN (by decide) (by decide))) ?_)
  refine S_list (T_val (v := (Value.int .u8 (IntKind.u8.wrap (x / 65536)))) (x_convI rfl Try.underlying171 Try.underlying5 rfl) ?_)
  refine S_list (T_val (v := (Value.pointer (some ⟨b, 14, none⟩))) (x_indexAddr rfl rfl Try.underlying43 z5 (by omega) (by omega) (by omega : _ = 5) (by first | rfl | simp | (congr 1; omega))) ?_)
  refine S_list0 (T_store1 (v := (Value.int .u8 (IntKind.u8.wrap (x / 65536)))) rfl rfl z5 rfl H39_ 1 rfl (Nat.le_of_ble_eq_true (by rfl)) ?_)
  intro w46_ S48_ H47_
  replace H47_ : Holds w46_ (ro R :: cl b 5 [c0, c1, c2, c3, c4, c5, c6, c7, c8, (Value.int .u8 (IntKind.u8.wrap (x / 72057594037927936))), (Value.int .u8 (IntKind.u8.wrap (x / 281474976710656))), (Value.int .u8 (IntKind.u8.wrap (x / 1099511627776))), (Value.int .u8 (IntKind.u8.wrap (x / 4294967296))), (Value.int .u8 (IntKind.u8.wrap (x / 16777216))), (Value.int .u8 (IntKind.u8.wrap (x / 65536))), c15, c16, c17] :: F) := H47_
  have S49_ := Same.trans S41_ S48_
  refine wpList_nil ?_
  refine (X_blkN (X_then (hK45_ _ _ ?_)))
  clear hK45_
  refine C_reg ?_
  refine S_list (T_val (v := (Value.int .i64 5)) (x_move rfl) ?_)
  refine S_list (T_val (v := (Value.int .i64 6)) (x_bin rfl rfl (by rfl)) ?_)
  refine S_list (T_val (v := (Value.int .i64 6)) (x_assign rfl) ?_)
  refine wpList_nil ?_
  refine (X_then ?_)
  refine hK42_ _ _ ?_
  clear hK42_
  refine C_rounds (fun K50_ hK50_ => ?_)
  refine C_seq (fun K51_ hK51_ => ?_)
  refine C_seq (fun K52_ hK52_ => ?_)
  refine C_reg ?_
  refine S_list (T_val (v := (Value.int .i64 6)) (x_move rfl) ?_)
  refine S_list (T_val (v := (Value.bool true)) (x_bin rfl rfl rfl) ?_)
  refine wpList_nil ?_
  refine (X_then (hK52_ _ _ ?_))
  clear hK52_
  refine C_condT rfl ?_
  refine C_skip (X_then (hK51_ _ _ ?_))
  clear hK51_
  refine C_seq (fun K53_ hK53_ => ?_)
  refine C_block ?_
  refine C_reg ?_
  refine S_list (T_val (v := (Value.slice (some ⟨b, 9, none⟩) 8 9)) (x_move rfl) ?_)
  refine S_list (T_val (v := (Value.int .i64 6)) (x_move rfl) ?_)
  refine S_list (T_val (v := (Value.int .u64 x)) (x_move rfl) ?_)
  refine S_list (T_val (v := (Value.int .i64 6)) (x_move rfl) ?_)
  refine S_list (T_val (v := (Value.int .i64 1)) (x_bin rfl rfl (by rfl)) ?_)
  refine S_list (T_val (v := (Value.int .u64 1)) (x_convI rfl Try.underlying3 Try.underlying170 (by decide)) ?_)
  refine S_list (T_val (v := (Value.int .u64 8)) (x_bin rfl rfl (by rfl)) ?_)
  refine S_list (T_val (v := (Value.int .u64 (x / 256))) (x_shr rfl rfl (by omega) (shrN (by decide) (by decide))) ?_)
  refine S_list (T_val (v := (Value.int .u8 (IntKind.u8.wrap (x / 256)))) (x_convI rfl Try.underlying171 Try.underlying5 rfl) ?_)
  refine S_list (T_val (v := (Value.pointer (some ⟨b, 15, none⟩))) (x_indexAddr rfl rfl Try.underlying43 z5 (by omega) (by omega) (by omega : _ = 6) (by first | rfl | simp | (congr 1; omega))) ?_)
  refine S_list0 (T_store1 (v := (Value.int .u8 (IntKind.u8.wrap (x / 256)))) rfl rfl z5 rfl H47_ 1 rfl (Nat.le_of_ble_eq_true (by rfl)) ?_)
  intro w54_ S56_ H55_
  replace H55_ : Holds w54_ (ro R :: cl b 5 [c0, c1, c2, c3, c4, c5, c6, c7, c8, (Value.int .u8 (IntKind.u8.wrap (x / 72057594037927936))), (Value.int .u8 (IntKind.u8.wrap (x / 281474976710656))), (Value.int .u8 (IntKind.u8.wrap (x / 1099511627776))), (Value.int .u8 (IntKind.u8.wrap (x / 4294967296))), (Value.int .u8 (IntKind.u8.wrap (x / 16777216))), (Value.int .u8 (IntKind.u8.wrap (x / 65536))), (Value.int .u8 (IntKind.u8.wrap (x / 256))), c16, c17] :: F) := H55_
  have S57_ := Same.trans S49_ S56_
  refine wpList_nil ?_
  refine (X_blkN (X_then (hK53_ _ _ ?_)))
  clear hK53_
  refine C_reg ?_
  refine S_list (T_val (v := (Value.int .i64 6)) (x_move rfl) ?_)
  refine S_list (T_val (v := (Value.int .i64 7)) (x_bin rfl rfl (by rfl)) ?_)
  refine S_list (T_val (v := (Value.int .i64 7)) (x_assign rfl) ?_)
  refine wpList_nil ?_
  refine (X_then ?_)
  refine hK50_ _ _ ?_
  clear hK50_
  refine C_rounds (fun K58_ hK58_ => ?_)
  refine C_seq (fun K59_ hK59_ => ?_)
  refine C_seq (fun K60_ hK60_ => ?_)
  refine C_reg ?_
  refine S_list (T_val (v := (Value.int .i64 7)) (x_move rfl) ?_)
  refine S_list (T_val (v := (Value.bool true)) (x_bin rfl rfl rfl) ?_)
  refine wpList_nil ?_
  refine (X_then (hK60_ _ _ ?_))
  clear hK60_
  refine C_condT rfl ?_
  refine C_skip (X_then (hK59_ _ _ ?_))
  clear hK59_
  refine C_seq (fun K61_ hK61_ => ?_)
  refine C_block ?_
  refine C_reg ?_
  refine S_list (T_val (v := (Value.slice (some ⟨b, 9, none⟩) 8 9)) (x_move rfl) ?_)
  refine S_list (T_val (v := (Value.int .i64 7)) (x_move rfl) ?_)
  refine S_list (T_val (v := (Value.int .u64 x)) (x_move rfl) ?_)
  refine S_list (T_val (v := (Value.int .i64 7)) (x_move rfl) ?_)
  refine S_list (T_val (v := (Value.int .i64 0)) (x_bin rfl rfl (by rfl)) ?_)
  refine S_list (T_val (v := (Value.int .u64 0)) (x_convI rfl Try.underlying3 Try.underlying170 (by decide)) ?_)
  refine S_list (T_val (v := (Value.int .u64 0)) (x_bin rfl rfl (by rfl)) ?_)
  refine S_list (T_val (v := (Value.int .u64 x)) (x_shr rfl rfl (by omega) (by simp [Int.fdiv_one])) ?_)
  refine S_list (T_val (v := (Value.int .u8 (IntKind.u8.wrap x))) (x_convI rfl Try.underlying171 Try.underlying5 rfl) ?_)
  refine S_list (T_val (v := (Value.pointer (some ⟨b, 16, none⟩))) (x_indexAddr rfl rfl Try.underlying43 z5 (by omega) (by omega) (by omega : _ = 7) (by first | rfl | simp | (congr 1; omega))) ?_)
  refine S_list0 (T_store1 (v := (Value.int .u8 (IntKind.u8.wrap x))) rfl rfl z5 rfl H55_ 1 rfl (Nat.le_of_ble_eq_true (by rfl)) ?_)
  intro w62_ S64_ H63_
  replace H63_ : Holds w62_ (ro R :: cl b 5 [c0, c1, c2, c3, c4, c5, c6, c7, c8, (Value.int .u8 (IntKind.u8.wrap (x / 72057594037927936))), (Value.int .u8 (IntKind.u8.wrap (x / 281474976710656))), (Value.int .u8 (IntKind.u8.wrap (x / 1099511627776))), (Value.int .u8 (IntKind.u8.wrap (x / 4294967296))), (Value.int .u8 (IntKind.u8.wrap (x / 16777216))), (Value.int .u8 (IntKind.u8.wrap (x / 65536))), (Value.int .u8 (IntKind.u8.wrap (x / 256))), (Value.int .u8 (IntKind.u8.wrap x)), c17] :: F) := H63_
  have S65_ := Same.trans S57_ S64_
  refine wpList_nil ?_
  refine (X_blkN (X_then (hK61_ _ _ ?_)))
  clear hK61_
  refine C_reg ?_
  refine S_list (T_val (v := (Value.int .i64 7)) (x_move rfl) ?_)
  refine S_list (T_val (v := (Value.int .i64 8)) (x_bin rfl rfl (by rfl)) ?_)
  refine S_list (T_val (v := (Value.int .i64 8)) (x_assign rfl) ?_)
  refine wpList_nil ?_
  refine (X_then ?_)
  refine hK58_ _ _ ?_
  clear hK58_
  refine C_rounds (fun K66_ hK66_ => ?_)
  refine C_seq (fun K67_ hK67_ => ?_)
  refine C_seq (fun K68_ hK68_ => ?_)
  refine C_reg ?_
  refine S_list (T_val (v := (Value.int .i64 8)) (x_move rfl) ?_)
  refine S_list (T_val (v := (Value.bool false)) (x_bin rfl rfl rfl) ?_)
  refine wpList_nil ?_
  refine (X_then (hK68_ _ _ ?_))
  clear hK68_
  refine C_condF rfl ?_
  refine C_exit (X_thenX (X_thenX (X_blkHit ?_)))
  refine R_0 rfl ?_
  exact ⟨_, [cl b 5 [c0, c1, c2, c3, c4, c5, c6, c7, c8, (Value.int .u8 (IntKind.u8.wrap (x / 72057594037927936))), (Value.int .u8 (IntKind.u8.wrap (x / 281474976710656))), (Value.int .u8 (IntKind.u8.wrap (x / 1099511627776))), (Value.int .u8 (IntKind.u8.wrap (x / 4294967296))), (Value.int .u8 (IntKind.u8.wrap (x / 16777216))), (Value.int .u8 (IntKind.u8.wrap (x / 65536))), (Value.int .u8 (IntKind.u8.wrap (x / 256))), (Value.int .u8 (IntKind.u8.wrap x)), c17]], rfl, ⟨rfl, rfl⟩, S65_, H63_⟩

set_option maxHeartbeats 400000 in
theorem hKey (R : HP) (b : Nat) (m s : Int) (t : Bool) :
    Tri Try.prog 91 #[(Value.agg #[(Value.int .i64 m), (Value.int .i64 s), (Value.bool t)]), (Value.slice (some ⟨b, 0, none⟩) 17 18)] R [cl b 5 [(Value.int .u8 0), (Value.int .u8 0), (Value.int .u8 0), (Value.int .u8 0), (Value.int .u8 0), (Value.int .u8 0), (Value.int .u8 0), (Value.int .u8 0), (Value.int .u8 0), (Value.int .u8 0), (Value.int .u8 0), (Value.int .u8 0), (Value.int .u8 0), (Value.int .u8 0), (Value.int .u8 0), (Value.int .u8 0), (Value.int .u8 0), (Value.int .u8 0)]] (fun v__ post__ => ∃ (v' : Value), v__ = v' ∧ post__ = [sl 5 1 v' (List.length (rkey m s t)) (bytesV (rkey m s t))]) := by
  refine Tri.into (n := 34) (al := [(Value.agg #[(Value.int .i64 m), (Value.int .i64 s), (Value.bool t)]), (Value.slice (some ⟨b, 0, none⟩) 17 18)]) Try.func91 rfl Try.ntmps91 rfl rfl fun w F H => ?_
  replace H : Holds w (ro R :: cl b 5 [(Value.int .u8 0), (Value.int .u8 0), (Value.int .u8 0), (Value.int .u8 0), (Value.int .u8 0), (Value.int .u8 0), (Value.int .u8 0), (Value.int .u8 0), (Value.int .u8 0), (Value.int .u8 0), (Value.int .u8 0), (Value.int .u8 0), (Value.int .u8 0), (Value.int .u8 0), (Value.int .u8 0), (Value.int .u8 0), (Value.int .u8 0), (Value.int .u8 0)] :: F) := H
  refine C_seq (fun K1_ hK1_ => ?_)
  refine C_reg ?_
  refine S_list (T_box (v := (Value.agg #[(Value.int .i64 m), (Value.int .i64 s), (Value.bool t)])) rfl H ?_)
  intro b2_ w3_ S5_ H4_
  replace H4_ : Holds w3_ (cl b2_ 161 [(Value.int .i64 m), (Value.int .i64 s), (Value.bool t)] :: ro R :: cl b 5 [(Value.int .u8 0), (Value.int .u8 0), (Value.int .u8 0), (Value.int .u8 0), (Value.int .u8 0), (Value.int .u8 0), (Value.int .u8 0), (Value.int .u8 0), (Value.int .u8 0), (Value.int .u8 0), (Value.int .u8 0), (Value.int .u8 0), (Value.int .u8 0), (Value.int .u8 0), (Value.int .u8 0), (Value.int .u8 0), (Value.int .u8 0), (Value.int .u8 0)] :: F) := H4_
  have S6_ := Same.trans (Same.refl w) S5_
  refine S_list (T_val (v := (Value.slice none 0 0)) (x_assign rfl) ?_)
  refine wpList_nil ?_
  refine (X_then (hK1_ _ _ ?_))
  clear hK1_
  refine C_seq (fun K7_ hK7_ => ?_)
  refine C_reg ?_
  refine S_list (T_val (v := (Value.slice (some ⟨b, 0, none⟩) 17 18)) (x_move rfl) ?_)
  refine S_list (T_val (v := (Value.pointer (some ⟨b2_, 0, none⟩))) (by kernel_rfl) ?_)
  refine S_list (T_val (v := (Value.pointer (some ⟨b2_, 0, none⟩))) (by kernel_rfl) ?_)
  refine S_list (T_val (v := (Value.int .i64 m)) (x_load1 rfl Try.underlying2 rfl ((Holds.rd H4_ 0 rfl) 0 (Value.int .i64 m) rfl)) ?_)
  refine S_list (T_val (v := (Value.int .u64 (IntKind.u64.wrap m))) (x_convI rfl Try.underlying2 Try.underlying171 rfl) ?_)
  have H8_ : Holds w3_ (cl b2_ 161 [(Value.int .i64 m), (Value.int .i64 s), (Value.bool t)] :: ro R :: cl b 5 [((Value.int .u8 0)), ((Value.int .u8 0)), ((Value.int .u8 0)), ((Value.int .u8 0)), ((Value.int .u8 0)), ((Value.int .u8 0)), ((Value.int .u8 0)), ((Value.int .u8 0)), ((Value.int .u8 0)), ((Value.int .u8 0)), ((Value.int .u8 0)), ((Value.int .u8 0)), ((Value.int .u8 0)), ((Value.int .u8 0)), ((Value.int .u8 0)), ((Value.int .u8 0)), ((Value.int .u8 0)), ((Value.int .u8 0))] :: F) := cast1 (P := fun (c__ : List Value) => Holds w3_ (cl b2_ 161 [(Value.int .i64 m), (Value.int .i64 s), (Value.bool t)] :: ro R :: cl b 5 c__ :: F)) ((lcons (rfl : (Value.int .u8 0) = ((Value.int .u8 0))) (lcons (rfl : (Value.int .u8 0) = ((Value.int .u8 0))) (lcons (rfl : (Value.int .u8 0) = ((Value.int .u8 0))) (lcons (rfl : (Value.int .u8 0) = ((Value.int .u8 0))) (lcons (rfl : (Value.int .u8 0) = ((Value.int .u8 0))) (lcons (rfl : (Value.int .u8 0) = ((Value.int .u8 0))) (lcons (rfl : (Value.int .u8 0) = ((Value.int .u8 0))) (lcons (rfl : (Value.int .u8 0) = ((Value.int .u8 0))) (lcons (rfl : (Value.int .u8 0) = ((Value.int .u8 0))) (lcons (rfl : (Value.int .u8 0) = ((Value.int .u8 0))) (lcons (rfl : (Value.int .u8 0) = ((Value.int .u8 0))) (lcons (rfl : (Value.int .u8 0) = ((Value.int .u8 0))) (lcons (rfl : (Value.int .u8 0) = ((Value.int .u8 0))) (lcons (rfl : (Value.int .u8 0) = ((Value.int .u8 0))) (lcons (rfl : (Value.int .u8 0) = ((Value.int .u8 0))) (lcons (rfl : (Value.int .u8 0) = ((Value.int .u8 0))) (lcons (rfl : (Value.int .u8 0) = ((Value.int .u8 0))) (lcons (rfl : (Value.int .u8 0) = ((Value.int .u8 0))) rfl)))))))))))))))))) : [(Value.int .u8 0), (Value.int .u8 0), (Value.int .u8 0), (Value.int .u8 0), (Value.int .u8 0), (Value.int .u8 0), (Value.int .u8 0), (Value.int .u8 0), (Value.int .u8 0), (Value.int .u8 0), (Value.int .u8 0), (Value.int .u8 0), (Value.int .u8 0), (Value.int .u8 0), (Value.int .u8 0), (Value.int .u8 0), (Value.int .u8 0), (Value.int .u8 0)] = [((Value.int .u8 0)), ((Value.int .u8 0)), ((Value.int .u8 0)), ((Value.int .u8 0)), ((Value.int .u8 0)), ((Value.int .u8 0)), ((Value.int .u8 0)), ((Value.int .u8 0)), ((Value.int .u8 0)), ((Value.int .u8 0)), ((Value.int .u8 0)), ((Value.int .u8 0)), ((Value.int .u8 0)), ((Value.int .u8 0)), ((Value.int .u8 0)), ((Value.int .u8 0)), ((Value.int .u8 0)), ((Value.int .u8 0))]) H4_
  have H10_ : Holds w3_ (ro R :: cl b 5 [((Value.int .u8 0)), ((Value.int .u8 0)), ((Value.int .u8 0)), ((Value.int .u8 0)), ((Value.int .u8 0)), ((Value.int .u8 0)), ((Value.int .u8 0)), ((Value.int .u8 0)), ((Value.int .u8 0)), ((Value.int .u8 0)), ((Value.int .u8 0)), ((Value.int .u8 0)), ((Value.int .u8 0)), ((Value.int .u8 0)), ((Value.int .u8 0)), ((Value.int .u8 0)), ((Value.int .u8 0)), ((Value.int .u8 0))] :: cl b2_ 161 [(Value.int .i64 m), (Value.int .i64 s), (Value.bool t)] :: F) := (Holds.bring (Holds.bring H8_ 2 rfl) 2 rfl)
  refine S_list (T_call (al := [(Value.slice (some ⟨b, 0, none⟩) 17 18), (Value.int .u64 (IntKind.u64.wrap m))]) (pre := [cl b 5 [((Value.int .u8 0)), ((Value.int .u8 0)), ((Value.int .u8 0)), ((Value.int .u8 0)), ((Value.int .u8 0)), ((Value.int .u8 0)), ((Value.int .u8 0)), ((Value.int .u8 0)), ((Value.int .u8 0)), ((Value.int .u8 0)), ((Value.int .u8 0)), ((Value.int .u8 0)), ((Value.int .u8 0)), ((Value.int .u8 0)), ((Value.int .u8 0)), ((Value.int .u8 0)), ((Value.int .u8 0)), ((Value.int .u8 0))]]) (F := cl b2_ 161 [(Value.int .i64 m), (Value.int .i64 s), (Value.bool t)] :: F) rfl rfl cb109 (hPutA R b (IntKind.u64.wrap m) (Value.int .u8 0) (Value.int .u8 0) (Value.int .u8 0) (Value.int .u8 0) (Value.int .u8 0) (Value.int .u8 0) (Value.int .u8 0) (Value.int .u8 0) (Value.int .u8 0) (Value.int .u8 0) (Value.int .u8 0) (Value.int .u8 0) (Value.int .u8 0) (Value.int .u8 0) (Value.int .u8 0) (Value.int .u8 0) (Value.int .u8 0) (Value.int .u8 0)) H10_ ?_)
  rintro v9_ p14_ w11_ ⟨rfl, rfl⟩ S13_ H12_
  replace H12_ : Holds w11_ (ro R :: cl b 5 [(Value.int .u8 (IntKind.u8.wrap ((IntKind.u64.wrap m) / 72057594037927936))), (Value.int .u8 (IntKind.u8.wrap ((IntKind.u64.wrap m) / 281474976710656))), (Value.int .u8 (IntKind.u8.wrap ((IntKind.u64.wrap m) / 1099511627776))), (Value.int .u8 (IntKind.u8.wrap ((IntKind.u64.wrap m) / 4294967296))), (Value.int .u8 (IntKind.u8.wrap ((IntKind.u64.wrap m) / 16777216))), (Value.int .u8 (IntKind.u8.wrap ((IntKind.u64.wrap m) / 65536))), (Value.int .u8 (IntKind.u8.wrap ((IntKind.u64.wrap m) / 256))), (Value.int .u8 (IntKind.u8.wrap (IntKind.u64.wrap m))), ((Value.int .u8 0)), ((Value.int .u8 0)), ((Value.int .u8 0)), ((Value.int .u8 0)), ((Value.int .u8 0)), ((Value.int .u8 0)), ((Value.int .u8 0)), ((Value.int .u8 0)), ((Value.int .u8 0)), ((Value.int .u8 0))] :: cl b2_ 161 [(Value.int .i64 m), (Value.int .i64 s), (Value.bool t)] :: F) := H12_
  have S15_ := Same.trans S6_ S13_
  refine wpList_nil ?_
  refine (X_then (hK7_ _ _ ?_))
  clear hK7_
  refine C_seq (fun K16_ hK16_ => ?_)
  refine C_reg ?_
  refine S_list (T_val (v := (Value.slice (some ⟨b, 0, none⟩) 17 18)) (x_move rfl) ?_)
  refine S_list (T_val (v := (Value.pointer (some ⟨b, 8, none⟩))) (x_indexAddr rfl rfl Try.underlying43 z5 (by omega) (by omega) (by omega : _ = 8) (by first | rfl | simp | (congr 1; omega))) ?_)
  refine S_list0 (T_store1 (v := (Value.int .u8 95)) rfl rfl z5 rfl H12_ 1 rfl (Nat.le_of_ble_eq_true (by rfl)) ?_)
  intro w17_ S19_ H18_
  replace H18_ : Holds w17_ (ro R :: cl b 5 [(Value.int .u8 (IntKind.u8.wrap ((IntKind.u64.wrap m) / 72057594037927936))), (Value.int .u8 (IntKind.u8.wrap ((IntKind.u64.wrap m) / 281474976710656))), (Value.int .u8 (IntKind.u8.wrap ((IntKind.u64.wrap m) / 1099511627776))), (Value.int .u8 (IntKind.u8.wrap ((IntKind.u64.wrap m) / 4294967296))), (Value.int .u8 (IntKind.u8.wrap ((IntKind.u64.wrap m) / 16777216))), (Value.int .u8 (IntKind.u8.wrap ((IntKind.u64.wrap m) / 65536))), (Value.int .u8 (IntKind.u8.wrap ((IntKind.u64.wrap m) / 256))), (Value.int .u8 (IntKind.u8.wrap (IntKind.u64.wrap m))), (Value.int .u8 95), ((Value.int .u8 0)), ((Value.int .u8 0)), ((Value.int .u8 0)), ((Value.int .u8 0)), ((Value.int .u8 0)), ((Value.int .u8 0)), ((Value.int .u8 0)), ((Value.int .u8 0)), ((Value.int .u8 0))] :: cl b2_ 161 [(Value.int .i64 m), (Value.int .i64 s), (Value.bool t)] :: F) := H18_
  have S20_ := Same.trans S15_ S19_
  refine wpList_nil ?_
  refine (X_then (hK16_ _ _ ?_))
  clear hK16_
  refine C_seq (fun K21_ hK21_ => ?_)
  refine A_start (S := fun w => Rd b2_ [(Value.int .i64 m), (Value.int .i64 s), (Value.bool t)] w ∧ Sub R (hp w)) (N := 7) foll rfl rfl ?_
  have H22_ : Holds w17_.drew (ro R :: cl b 5 [(Value.int .u8 (IntKind.u8.wrap ((IntKind.u64.wrap m) / 72057594037927936))), (Value.int .u8 (IntKind.u8.wrap ((IntKind.u64.wrap m) / 281474976710656))), (Value.int .u8 (IntKind.u8.wrap ((IntKind.u64.wrap m) / 1099511627776))), (Value.int .u8 (IntKind.u8.wrap ((IntKind.u64.wrap m) / 4294967296))), (Value.int .u8 (IntKind.u8.wrap ((IntKind.u64.wrap m) / 16777216))), (Value.int .u8 (IntKind.u8.wrap ((IntKind.u64.wrap m) / 65536))), (Value.int .u8 (IntKind.u8.wrap ((IntKind.u64.wrap m) / 256))), (Value.int .u8 (IntKind.u8.wrap (IntKind.u64.wrap m))), (Value.int .u8 95), ((Value.int .u8 0)), ((Value.int .u8 0)), ((Value.int .u8 0)), ((Value.int .u8 0)), ((Value.int .u8 0)), ((Value.int .u8 0)), ((Value.int .u8 0)), ((Value.int .u8 0)), ((Value.int .u8 0))] :: cl b2_ 161 [(Value.int .i64 m), (Value.int .i64 s), (Value.bool t)] :: F) := H18_
  have hq23_ := And.intro (Holds.rd H22_ 2 rfl) ((Holds.ro_at H22_ 0 rfl))
  refine A_tk 0 (v := (Value.slice (some ⟨b, 0, none⟩) 17 18)) rfl (by kernel_rfl) (fun w hS => x_move rfl) hq23_ ?_
  refine A_tk 1 (v := (Value.slice (some ⟨b, 9, none⟩) 8 9)) rfl (by kernel_rfl) (fun w hS => x_slice (l := 9) (h := 17) rfl Try.underlying43 z5 rfl ⟨_, _, rfl, by omega, by omega, by omega⟩ ((by rw [if_neg (by omega)]; first | rfl | simp [add_mk]))) hq23_ ?_
  refine A_tk 2 (v := (Value.pointer (some ⟨b2_, 0, none⟩))) rfl (by kernel_rfl) (fun w hS => by kernel_rfl) hq23_ ?_
  refine A_tk 3 (v := (Value.pointer (some ⟨b2_, 1, none⟩))) rfl (by kernel_rfl) (fun w hS => by kernel_rfl) hq23_ ?_
  refine A_tk 4 (v := (Value.int .i64 s)) rfl (by kernel_rfl) (fun w hS => x_load1 rfl Try.underlying2 rfl (hS.1 1 (Value.int .i64 s) rfl)) hq23_ ?_
  refine A_tk 5 (v := (Value.int .u64 (IntKind.u64.wrap s))) rfl (by kernel_rfl) (fun w hS => x_convI rfl Try.underlying2 Try.underlying171 rfl) hq23_ ?_
  refine A_ready (i := 6) (rs := []) (by kernel_rfl) ?_
  refine AllR.cons ?_ AllR.nil
  have H24_ : Holds w17_.drew (ro R :: cl b 5 [((Value.int .u8 (IntKind.u8.wrap ((IntKind.u64.wrap m) / 72057594037927936)))), ((Value.int .u8 (IntKind.u8.wrap ((IntKind.u64.wrap m) / 281474976710656)))), ((Value.int .u8 (IntKind.u8.wrap ((IntKind.u64.wrap m) / 1099511627776)))), ((Value.int .u8 (IntKind.u8.wrap ((IntKind.u64.wrap m) / 4294967296)))), ((Value.int .u8 (IntKind.u8.wrap ((IntKind.u64.wrap m) / 16777216)))), ((Value.int .u8 (IntKind.u8.wrap ((IntKind.u64.wrap m) / 65536)))), ((Value.int .u8 (IntKind.u8.wrap ((IntKind.u64.wrap m) / 256)))), ((Value.int .u8 (IntKind.u8.wrap (IntKind.u64.wrap m)))), ((Value.int .u8 95)), ((Value.int .u8 0)), ((Value.int .u8 0)), ((Value.int .u8 0)), ((Value.int .u8 0)), ((Value.int .u8 0)), ((Value.int .u8 0)), ((Value.int .u8 0)), ((Value.int .u8 0)), ((Value.int .u8 0))] :: cl b2_ 161 [(Value.int .i64 m), (Value.int .i64 s), (Value.bool t)] :: F) := cast1 (P := fun (c__ : List Value) => Holds w17_.drew (ro R :: cl b 5 c__ :: cl b2_ 161 [(Value.int .i64 m), (Value.int .i64 s), (Value.bool t)] :: F)) ((lcons (rfl : (Value.int .u8 (IntKind.u8.wrap ((IntKind.u64.wrap m) / 72057594037927936))) = ((Value.int .u8 (IntKind.u8.wrap ((IntKind.u64.wrap m) / 72057594037927936))))) (lcons (rfl : (Value.int .u8 (IntKind.u8.wrap ((IntKind.u64.wrap m) / 281474976710656))) = ((Value.int .u8 (IntKind.u8.wrap ((IntKind.u64.wrap m) / 281474976710656))))) (lcons (rfl : (Value.int .u8 (IntKind.u8.wrap ((IntKind.u64.wrap m) / 1099511627776))) = ((Value.int .u8 (IntKind.u8.wrap ((IntKind.u64.wrap m) / 1099511627776))))) (lcons (rfl : (Value.int .u8 (IntKind.u8.wrap ((IntKind.u64.wrap m) / 4294967296))) = ((Value.int .u8 (IntKind.u8.wrap ((IntKind.u64.wrap m) / 4294967296))))) (lcons (rfl : (Value.int .u8 (IntKind.u8.wrap ((IntKind.u64.wrap m) / 16777216))) = ((Value.int .u8 (IntKind.u8.wrap ((IntKind.u64.wrap m) / 16777216))))) (lcons (rfl : (Value.int .u8 (IntKind.u8.wrap ((IntKind.u64.wrap m) / 65536))) = ((Value.int .u8 (IntKind.u8.wrap ((IntKind.u64.wrap m) / 65536))))) (lcons (rfl : (Value.int .u8 (IntKind.u8.wrap ((IntKind.u64.wrap m) / 256))) = ((Value.int .u8 (IntKind.u8.wrap ((IntKind.u64.wrap m) / 256))))) (lcons (rfl : (Value.int .u8 (IntKind.u8.wrap (IntKind.u64.wrap m))) = ((Value.int .u8 (IntKind.u8.wrap (IntKind.u64.wrap m))))) (lcons (rfl : (Value.int .u8 95) = ((Value.int .u8 95))) rfl))))))))) : [(Value.int .u8 (IntKind.u8.wrap ((IntKind.u64.wrap m) / 72057594037927936))), (Value.int .u8 (IntKind.u8.wrap ((IntKind.u64.wrap m) / 281474976710656))), (Value.int .u8 (IntKind.u8.wrap ((IntKind.u64.wrap m) / 1099511627776))), (Value.int .u8 (IntKind.u8.wrap ((IntKind.u64.wrap m) / 4294967296))), (Value.int .u8 (IntKind.u8.wrap ((IntKind.u64.wrap m) / 16777216))), (Value.int .u8 (IntKind.u8.wrap ((IntKind.u64.wrap m) / 65536))), (Value.int .u8 (IntKind.u8.wrap ((IntKind.u64.wrap m) / 256))), (Value.int .u8 (IntKind.u8.wrap (IntKind.u64.wrap m))), (Value.int .u8 95), ((Value.int .u8 0)), ((Value.int .u8 0)), ((Value.int .u8 0)), ((Value.int .u8 0)), ((Value.int .u8 0)), ((Value.int .u8 0)), ((Value.int .u8 0)), ((Value.int .u8 0)), ((Value.int .u8 0))] = [((Value.int .u8 (IntKind.u8.wrap ((IntKind.u64.wrap m) / 72057594037927936)))), ((Value.int .u8 (IntKind.u8.wrap ((IntKind.u64.wrap m) / 281474976710656)))), ((Value.int .u8 (IntKind.u8.wrap ((IntKind.u64.wrap m) / 1099511627776)))), ((Value.int .u8 (IntKind.u8.wrap ((IntKind.u64.wrap m) / 4294967296)))), ((Value.int .u8 (IntKind.u8.wrap ((IntKind.u64.wrap m) / 16777216)))), ((Value.int .u8 (IntKind.u8.wrap ((IntKind.u64.wrap m) / 65536)))), ((Value.int .u8 (IntKind.u8.wrap ((IntKind.u64.wrap m) / 256)))), ((Value.int .u8 (IntKind.u8.wrap (IntKind.u64.wrap m)))), ((Value.int .u8 95)), ((Value.int .u8 0)), ((Value.int .u8 0)), ((Value.int .u8 0)), ((Value.int .u8 0)), ((Value.int .u8 0)), ((Value.int .u8 0)), ((Value.int .u8 0)), ((Value.int .u8 0)), ((Value.int .u8 0))]) H22_
  refine A_op (ls' := #[true, true, true, true, true, true, true]) rfl (by kernel_rfl) (T_call (al := [(Value.slice (some ⟨b, 9, none⟩) 8 9), (Value.int .u64 (IntKind.u64.wrap s))]) (pre := [cl b 5 [((Value.int .u8 (IntKind.u8.wrap ((IntKind.u64.wrap m) / 72057594037927936)))), ((Value.int .u8 (IntKind.u8.wrap ((IntKind.u64.wrap m) / 281474976710656)))), ((Value.int .u8 (IntKind.u8.wrap ((IntKind.u64.wrap m) / 1099511627776)))), ((Value.int .u8 (IntKind.u8.wrap ((IntKind.u64.wrap m) / 4294967296)))), ((Value.int .u8 (IntKind.u8.wrap ((IntKind.u64.wrap m) / 16777216)))), ((Value.int .u8 (IntKind.u8.wrap ((IntKind.u64.wrap m) / 65536)))), ((Value.int .u8 (IntKind.u8.wrap ((IntKind.u64.wrap m) / 256)))), ((Value.int .u8 (IntKind.u8.wrap (IntKind.u64.wrap m)))), ((Value.int .u8 95)), ((Value.int .u8 0)), ((Value.int .u8 0)), ((Value.int .u8 0)), ((Value.int .u8 0)), ((Value.int .u8 0)), ((Value.int .u8 0)), ((Value.int .u8 0)), ((Value.int .u8 0)), ((Value.int .u8 0))]]) (F := cl b2_ 161 [(Value.int .i64 m), (Value.int .i64 s), (Value.bool t)] :: F) rfl rfl cb109 (hPutB R b (IntKind.u64.wrap s) (Value.int .u8 (IntKind.u8.wrap ((IntKind.u64.wrap m) / 72057594037927936))) (Value.int .u8 (IntKind.u8.wrap ((IntKind.u64.wrap m) / 281474976710656))) (Value.int .u8 (IntKind.u8.wrap ((IntKind.u64.wrap m) / 1099511627776))) (Value.int .u8 (IntKind.u8.wrap ((IntKind.u64.wrap m) / 4294967296))) (Value.int .u8 (IntKind.u8.wrap ((IntKind.u64.wrap m) / 16777216))) (Value.int .u8 (IntKind.u8.wrap ((IntKind.u64.wrap m) / 65536))) (Value.int .u8 (IntKind.u8.wrap ((IntKind.u64.wrap m) / 256))) (Value.int .u8 (IntKind.u8.wrap (IntKind.u64.wrap m))) (Value.int .u8 95) (Value.int .u8 0) (Value.int .u8 0) (Value.int .u8 0) (Value.int .u8 0) (Value.int .u8 0) (Value.int .u8 0) (Value.int .u8 0) (Value.int .u8 0) (Value.int .u8 0)) H24_ ?_)
  rintro v25_ p29_ w26_ ⟨rfl, rfl⟩ S28_ H27_
  replace H27_ : Holds w26_ (ro R :: cl b 5 [((Value.int .u8 (IntKind.u8.wrap ((IntKind.u64.wrap m) / 72057594037927936)))), ((Value.int .u8 (IntKind.u8.wrap ((IntKind.u64.wrap m) / 281474976710656)))), ((Value.int .u8 (IntKind.u8.wrap ((IntKind.u64.wrap m) / 1099511627776)))), ((Value.int .u8 (IntKind.u8.wrap ((IntKind.u64.wrap m) / 4294967296)))), ((Value.int .u8 (IntKind.u8.wrap ((IntKind.u64.wrap m) / 16777216)))), ((Value.int .u8 (IntKind.u8.wrap ((IntKind.u64.wrap m) / 65536)))), ((Value.int .u8 (IntKind.u8.wrap ((IntKind.u64.wrap m) / 256)))), ((Value.int .u8 (IntKind.u8.wrap (IntKind.u64.wrap m)))), ((Value.int .u8 95)), (Value.int .u8 (IntKind.u8.wrap ((IntKind.u64.wrap s) / 72057594037927936))), (Value.int .u8 (IntKind.u8.wrap ((IntKind.u64.wrap s) / 281474976710656))), (Value.int .u8 (IntKind.u8.wrap ((IntKind.u64.wrap s) / 1099511627776))), (Value.int .u8 (IntKind.u8.wrap ((IntKind.u64.wrap s) / 4294967296))), (Value.int .u8 (IntKind.u8.wrap ((IntKind.u64.wrap s) / 16777216))), (Value.int .u8 (IntKind.u8.wrap ((IntKind.u64.wrap s) / 65536))), (Value.int .u8 (IntKind.u8.wrap ((IntKind.u64.wrap s) / 256))), (Value.int .u8 (IntKind.u8.wrap (IntKind.u64.wrap s))), ((Value.int .u8 0))] :: cl b2_ 161 [(Value.int .i64 m), (Value.int .i64 s), (Value.bool t)] :: F) := H27_
  have S30_ := Same.trans (Same.trans S20_ (Same.drew _)) S28_
  refine ⟨⟨Holds.rd H27_ 2 rfl, (Holds.ro_at H27_ 0 rfl)⟩, ?_⟩
  refine A_done (by kernel_rfl) ?_
  refine (X_then (hK21_ _ _ ?_))
  clear hK21_
  refine C_seq (fun K31_ hK31_ => ?_)
  refine C_seq (fun K32_ hK32_ => ?_)
  refine C_reg ?_
  refine S_list (T_val (v := (Value.pointer (some ⟨b2_, 2, none⟩))) (by kernel_rfl) ?_)
  refine S_list (T_val (v := (Value.bool t)) (x_load1 rfl Try.underlying4 rfl ((Holds.rd H27_ 2 rfl) 2 (Value.bool t) rfl)) ?_)
  refine wpList_nil ?_
  refine (X_then (hK32_ _ _ ?_))
  clear hK32_
  refine C_cond (b := t) rfl (fun c33_t => ?_) (fun c33_f => ?_)
  · skip
    refine C_seq (fun K34_ hK34_ => ?_)
    refine C_reg ?_
    refine S_list (T_val (v := (Value.slice (some ⟨b, 0, none⟩) 17 18)) (x_move rfl) ?_)
    refine S_list (T_val (v := (Value.int .i64 17)) (x_lenS rfl Try.underlying43) ?_)
    refine wpList_nil ?_
    refine (X_then (hK34_ _ _ ?_))
    clear hK34_
    refine C_block ?_
    refine C_seq (fun K35_ hK35_ => ?_)
    refine C_reg ?_
    refine S_list (T_val (v := (Value.bool true)) (x_bin rfl rfl rfl) ?_)
    refine S_list (T_val (v := (Value.bool true)) (x_assign rfl) ?_)
    refine wpList_nil ?_
    refine (X_then (hK35_ _ _ ?_))
    clear hK35_
    refine C_condT rfl ?_
    refine C_reg ?_
    refine S_list (T_val (v := (Value.slice (some ⟨b, 0, none⟩) 17 18)) (x_move rfl) ?_)
    refine S_list (T_new (obj := .cells #[(Value.int .u8 116)] 5) (f := fun b__ => .slice (some ⟨b__, 0, none⟩) 1 1) (A := fun b__ => cl b__ 5 [(Value.int .u8 116)]) (by kernel_rfl) (fun l h => h.alloc _ _) H27_ ?_)
    intro b36_ w37_ S39_ H38_
    replace H38_ : Holds w37_ (cl b36_ 5 [(Value.int .u8 116)] :: ro R :: cl b 5 [((Value.int .u8 (IntKind.u8.wrap ((IntKind.u64.wrap m) / 72057594037927936)))), ((Value.int .u8 (IntKind.u8.wrap ((IntKind.u64.wrap m) / 281474976710656)))), ((Value.int .u8 (IntKind.u8.wrap ((IntKind.u64.wrap m) / 1099511627776)))), ((Value.int .u8 (IntKind.u8.wrap ((IntKind.u64.wrap m) / 4294967296)))), ((Value.int .u8 (IntKind.u8.wrap ((IntKind.u64.wrap m) / 16777216)))), ((Value.int .u8 (IntKind.u8.wrap ((IntKind.u64.wrap m) / 65536)))), ((Value.int .u8 (IntKind.u8.wrap ((IntKind.u64.wrap m) / 256)))), ((Value.int .u8 (IntKind.u8.wrap (IntKind.u64.wrap m)))), ((Value.int .u8 95)), (Value.int .u8 (IntKind.u8.wrap ((IntKind.u64.wrap s) / 72057594037927936))), (Value.int .u8 (IntKind.u8.wrap ((IntKind.u64.wrap s) / 281474976710656))), (Value.int .u8 (IntKind.u8.wrap ((IntKind.u64.wrap s) / 1099511627776))), (Value.int .u8 (IntKind.u8.wrap ((IntKind.u64.wrap s) / 4294967296))), (Value.int .u8 (IntKind.u8.wrap ((IntKind.u64.wrap s) / 16777216))), (Value.int .u8 (IntKind.u8.wrap ((IntKind.u64.wrap s) / 65536))), (Value.int .u8 (IntKind.u8.wrap ((IntKind.u64.wrap s) / 256))), (Value.int .u8 (IntKind.u8.wrap (IntKind.u64.wrap s))), ((Value.int .u8 0))] :: cl b2_ 161 [(Value.int .i64 m), (Value.int .i64 s), (Value.bool t)] :: F) := H38_
    have S40_ := Same.trans S30_ S39_
    have H41_ : Holds w37_ (cl b36_ 5 [(Value.int .u8 116)] :: ro R :: cl b 5 ([] ++ bytesV (rkey m s false) ++ [Value.int .u8 0]) :: cl b2_ 161 [(Value.int .i64 m), (Value.int .i64 s), (Value.bool t)] :: F) := cast1 (P := fun (c__ : List Value) => Holds w37_ (cl b36_ 5 [(Value.int .u8 116)] :: ro R :: cl b 5 c__ :: cl b2_ 161 [(Value.int .i64 m), (Value.int .i64 s), (Value.bool t)] :: F)) (rfl : [((Value.int .u8 (IntKind.u8.wrap ((IntKind.u64.wrap m) / 72057594037927936)))), ((Value.int .u8 (IntKind.u8.wrap ((IntKind.u64.wrap m) / 281474976710656)))), ((Value.int .u8 (IntKind.u8.wrap ((IntKind.u64.wrap m) / 1099511627776)))), ((Value.int .u8 (IntKind.u8.wrap ((IntKind.u64.wrap m) / 4294967296)))), ((Value.int .u8 (IntKind.u8.wrap ((IntKind.u64.wrap m) / 16777216)))), ((Value.int .u8 (IntKind.u8.wrap ((IntKind.u64.wrap m) / 65536)))), ((Value.int .u8 (IntKind.u8.wrap ((IntKind.u64.wrap m) / 256)))), ((Value.int .u8 (IntKind.u8.wrap (IntKind.u64.wrap m)))), ((Value.int .u8 95)), (Value.int .u8 (IntKind.u8.wrap ((IntKind.u64.wrap s) / 72057594037927936))), (Value.int .u8 (IntKind.u8.wrap ((IntKind.u64.wrap s) / 281474976710656))), (Value.int .u8 (IntKind.u8.wrap ((IntKind.u64.wrap s) / 1099511627776))), (Value.int .u8 (IntKind.u8.wrap ((IntKind.u64.wrap s) / 4294967296))), (Value.int .u8 (IntKind.u8.wrap ((IntKind.u64.wrap s) / 16777216))), (Value.int .u8 (IntKind.u8.wrap ((IntKind.u64.wrap s) / 65536))), (Value.int .u8 (IntKind.u8.wrap ((IntKind.u64.wrap s) / 256))), (Value.int .u8 (IntKind.u8.wrap (IntKind.u64.wrap s))), ((Value.int .u8 0))] = [] ++ bytesV (rkey m s false) ++ [Value.int .u8 0]) H38_
    have H42_ : Holds w37_ (cl b36_ 5 [(Value.int .u8 116)] :: ro R :: sl 5 1 (Value.slice (some ⟨b, 0, none⟩) 17 18) (List.length (rkey m s false)) (bytesV (rkey m s false)) :: cl b2_ 161 [(Value.int .i64 m), (Value.int .i64 s), (Value.bool t)] :: F) := Holds.to_sl H41_ 2 [] [Value.int .u8 0] (xs := bytesV (rkey m s false)) (m := 17) (cap := 18) (sz := 1) rfl rfl rfl (by omega)
    refine S_list (T_append rfl rfl Try.underlying43 z5 rfl (by decide) H42_ 2 rfl (Holds.cl_src H42_ 0 rfl Try.underlying43 (by simp [Value.oneCell']) rfl) (by rw [rkey_len]; decide) ?_)
    intro v43_ w44_ S46_ H45_
    replace H45_ : Holds w44_ (cl b36_ 5 [(Value.int .u8 116)] :: ro R :: sl 5 1 v43_ ((List.length (rkey m s false)) + 1) ((bytesV (rkey m s false)) ++ [(Value.int .u8 116)]) :: cl b2_ 161 [(Value.int .i64 m), (Value.int .i64 s), (Value.bool t)] :: F) := H45_
    have S47_ := Same.trans S40_ S46_
    have H48_ : Holds w44_ (cl b36_ 5 [(Value.int .u8 116)] :: ro R :: sl 5 1 v43_ (List.length ((rkey m s false) ++ [116])) (bytesV ((rkey m s false) ++ [116])) :: cl b2_ 161 [(Value.int .i64 m), (Value.int .i64 s), (Value.bool t)] :: F) := cast2 (P := fun (c__ : List Value) (k__ : Nat) => Holds w44_ (cl b36_ 5 [(Value.int .u8 116)] :: ro R :: sl 5 1 v43_ k__ c__ :: cl b2_ 161 [(Value.int .i64 m), (Value.int .i64 s), (Value.bool t)] :: F)) (by simp [bytesV] : (bytesV (rkey m s false)) ++ [(Value.int .u8 116)] = bytesV ((rkey m s false) ++ [116])) (by first | (simp; done) | (simp; omega) | (have := RS.blen trivial; simp; omega) : (List.length (rkey m s false)) + 1 = (List.length ((rkey m s false) ++ [116]))) H45_
    refine S_list (T_val (v := v43_) (x_assign rfl) ?_)
    refine wpList_nil ?_
    refine (X_blkN (X_then (hK31_ _ _ ?_)))
    clear hK31_
    refine C_seq (fun K49_ hK49_ => ?_)
    refine C_reg ?_
    refine S_list (T_val (v := v43_) (x_move rfl) ?_)
    refine S_list (T_val (v := v43_) (x_assign rfl) ?_)
    refine wpList_nil ?_
    refine (X_then (hK49_ _ _ ?_))
    clear hK49_
    refine C_ret ?_
    refine R_any (v := v43_) (run_results1 rfl rfl) ?_
    have H50_ : Holds w44_ (cl b36_ 5 [(Value.int .u8 116)] :: ro R :: sl 5 1 v43_ (List.length (rkey m s t)) (bytesV (rkey m s t)) :: cl b2_ 161 [(Value.int .i64 m), (Value.int .i64 s), (Value.bool t)] :: F) := cast2 (P := fun (c__ : List Value) (k__ : Nat) => Holds w44_ (cl b36_ 5 [(Value.int .u8 116)] :: ro R :: sl 5 1 v43_ k__ c__ :: cl b2_ 161 [(Value.int .i64 m), (Value.int .i64 s), (Value.bool t)] :: F)) ((by rw [c33_t] <;> rfl) : bytesV ((rkey m s false) ++ [116]) = bytesV (rkey m s t)) ((by rw [c33_t] <;> rfl) : (List.length ((rkey m s false) ++ [116])) = (List.length (rkey m s t))) H48_
    have H51_ : Holds w44_ (ro R :: sl 5 1 v43_ (List.length (rkey m s t)) (bytesV (rkey m s t)) :: F) := (Holds.erase (Holds.erase (Holds.bring (Holds.bring H50_ 2 rfl) 2 rfl) 2) 2)
    exact ⟨_, [sl 5 1 v43_ (List.length (rkey m s t)) (bytesV (rkey m s t))], rfl, ⟨v43_, rfl, rfl⟩, S47_, H51_⟩
  · skip
    refine C_skip (X_then (hK31_ _ _ ?_))
    clear hK31_
    refine C_seq (fun K52_ hK52_ => ?_)
    refine C_reg ?_
    refine S_list (T_val (v := (Value.slice (some ⟨b, 0, none⟩) 17 18)) (x_move rfl) ?_)
    refine S_list (T_val (v := (Value.slice (some ⟨b, 0, none⟩) 17 18)) (x_assign rfl) ?_)
    refine wpList_nil ?_
    refine (X_then (hK52_ _ _ ?_))
    clear hK52_
    refine C_ret ?_
    refine R_any (v := (Value.slice (some ⟨b, 0, none⟩) 17 18)) (run_results1 rfl rfl) ?_
    have H53_ : Holds w26_ (ro R :: cl b 5 ([] ++ bytesV (rkey m s false) ++ [Value.int .u8 0]) :: cl b2_ 161 [(Value.int .i64 m), (Value.int .i64 s), (Value.bool t)] :: F) := cast1 (P := fun (c__ : List Value) => Holds w26_ (ro R :: cl b 5 c__ :: cl b2_ 161 [(Value.int .i64 m), (Value.int .i64 s), (Value.bool t)] :: F)) (rfl : [((Value.int .u8 (IntKind.u8.wrap ((IntKind.u64.wrap m) / 72057594037927936)))), ((Value.int .u8 (IntKind.u8.wrap ((IntKind.u64.wrap m) / 281474976710656)))), ((Value.int .u8 (IntKind.u8.wrap ((IntKind.u64.wrap m) / 1099511627776)))), ((Value.int .u8 (IntKind.u8.wrap ((IntKind.u64.wrap m) / 4294967296)))), ((Value.int .u8 (IntKind.u8.wrap ((IntKind.u64.wrap m) / 16777216)))), ((Value.int .u8 (IntKind.u8.wrap ((IntKind.u64.wrap m) / 65536)))), ((Value.int .u8 (IntKind.u8.wrap ((IntKind.u64.wrap m) / 256)))), ((Value.int .u8 (IntKind.u8.wrap (IntKind.u64.wrap m)))), ((Value.int .u8 95)), (Value.int .u8 (IntKind.u8.wrap ((IntKind.u64.wrap s) / 72057594037927936))), (Value.int .u8 (IntKind.u8.wrap ((IntKind.u64.wrap s) / 281474976710656))), (Value.int .u8 (IntKind.u8.wrap ((IntKind.u64.wrap s) / 1099511627776))), (Value.int .u8 (IntKind.u8.wrap ((IntKind.u64.wrap s) / 4294967296))), (Value.int .u8 (IntKind.u8.wrap ((IntKind.u64.wrap s) / 16777216))), (Value.int .u8 (IntKind.u8.wrap ((IntKind.u64.wrap s) / 65536))), (Value.int .u8 (IntKind.u8.wrap ((IntKind.u64.wrap s) / 256))), (Value.int .u8 (IntKind.u8.wrap (IntKind.u64.wrap s))), ((Value.int .u8 0))] = [] ++ bytesV (rkey m s false) ++ [Value.int .u8 0]) H27_
    have H54_ : Holds w26_ (ro R :: sl 5 1 (Value.slice (some ⟨b, 0, none⟩) 17 18) (List.length (rkey m s false)) (bytesV (rkey m s false)) :: cl b2_ 161 [(Value.int .i64 m), (Value.int .i64 s), (Value.bool t)] :: F) := Holds.to_sl H53_ 1 [] [Value.int .u8 0] (xs := bytesV (rkey m s false)) (m := 17) (cap := 18) (sz := 1) rfl rfl rfl (by omega)
    have H55_ : Holds w26_ (ro R :: sl 5 1 (Value.slice (some ⟨b, 0, none⟩) 17 18) (List.length (rkey m s t)) (bytesV (rkey m s t)) :: cl b2_ 161 [(Value.int .i64 m), (Value.int .i64 s), (Value.bool t)] :: F) := cast2 (P := fun (c__ : List Value) (k__ : Nat) => Holds w26_ (ro R :: sl 5 1 (Value.slice (some ⟨b, 0, none⟩) 17 18) k__ c__ :: cl b2_ 161 [(Value.int .i64 m), (Value.int .i64 s), (Value.bool t)] :: F)) ((by rw [c33_f] <;> rfl) : bytesV (rkey m s false) = bytesV (rkey m s t)) ((by rw [c33_f] <;> rfl) : (List.length (rkey m s false)) = (List.length (rkey m s t))) H54_
    have H56_ : Holds w26_ (ro R :: sl 5 1 (Value.slice (some ⟨b, 0, none⟩) 17 18) (List.length (rkey m s t)) (bytesV (rkey m s t)) :: F) := (Holds.erase (Holds.bring (Holds.bring H55_ 1 rfl) 1 rfl) 2)
    exact ⟨_, [sl 5 1 (Value.slice (some ⟨b, 0, none⟩) 17 18) (List.length (rkey m s t)) (bytesV (rkey m s t))], rfl, ⟨(Value.slice (some ⟨b, 0, none⟩) 17 18), (rfl : (Value.slice (some ⟨b, 0, none⟩) 17 18) = ((Value.slice (some ⟨b, 0, none⟩) 17 18))), rfl⟩, S30_, H56_⟩
end Go.Proofs.Ytgeggiebefonhaa
